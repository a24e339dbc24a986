import JvmDerived
import JvmDerived.Pilot.@@N@@Statement
import JvmDerived.Pilot.@@N@@Code
set_option linter.unusedVariables false
set_option linter.unusedSimpArgs false
namespace Jvm.Pilot.@@N@@
namespace Fl
open Jvm.FP.Core
/-! rounding of N / D, all in units of the least double -/
def rz (N : Int) (D : Nat) : Int := zval b64 (roundRatio b64 (decide (N < 0)) N.natAbs D b64.qmin)
def Rep (k : Int) : Prop := ∃ V, Jvm.FP.Core.fits b64 V ∧ V ≠ .nan ∧ zval b64 V = k
theorem iu (c : Nat) (q : Int) : inUnits c q q = c := by unfold inUnits; simp
theorem rz_le {N : Int} {D : Nat} (hD : 0 < D) {V : Datum} (hV : Jvm.FP.Core.fits b64 V) (hn : V ≠ .nan) (h : N ≤ zval b64 V * (D : Int)) : rz N D ≤ zval b64 V := by
  have hle := zmag_roundRatio_le good_b64 (s := decide (N < 0)) (A := N.natAbs) (e := b64.qmin) (e0 := b64.qmin) hD hV hn (Int.le_refl _) (Int.le_refl _)
  have hge := zmag_roundRatio_ge good_b64 (s := decide (N < 0)) (A := N.natAbs) (e := b64.qmin) (e0 := b64.qmin) hD hV (Int.le_refl _) (Int.le_refl _)
  rw [iu, Int.sub_self, Int.toNat_zero, Nat.pow_zero, Nat.mul_one] at hle hge
  unfold rz
  unfold zval at h ⊢
  rw [sgn_roundRatio]
  rw [← signed_mul] at h
  have hz : zmag b64 V * D = 0 → zmag b64 V = 0 := fun q => (Nat.mul_eq_zero.mp q).resolve_right (by omega)
  generalize zmag b64 (roundRatio b64 (decide (N < 0)) N.natAbs D b64.qmin) = r at *
  generalize zmag b64 V * D = w at *
  generalize zmag b64 V = v at *
  generalize sgn V = t at *
  by_cases hN : N < 0
  · rw [decide_eq_true hN]
    cases t <;> simp only [signed, if_true, Bool.false_eq_true, if_false] at h ⊢
    · omega
    · have := hge (by omega); omega
  · rw [decide_eq_false hN]
    cases t <;> simp only [signed, if_true, Bool.false_eq_true, if_false] at h ⊢
    · have := hle (by omega); omega
    · have := hle (by omega); have := hz (by omega); omega
theorem rz_zero (D : Nat) : rz 0 D = 0 := by
  show zval b64 (roundRatio b64 _ 0 D _) = 0
  unfold roundRatio
  rw [if_pos rfl]
  show signed _ (inUnits 0 _ _) = 0
  rw [iu, signed_zero]
theorem rz_neg (N : Int) (D : Nat) : rz (-N) D = -rz N D := by
  by_cases h : N = 0
  · subst h; rw [show (-(0 : Int)) = 0 from rfl, rz_zero]; rfl
  · have e : decide (-N < 0) = !decide (N < 0) := by
      by_cases q : N < 0
      · rw [decide_eq_true q, decide_eq_false (p := -N < 0) (by omega)]; rfl
      · rw [decide_eq_false q, decide_eq_true (p := -N < 0) (by omega)]; rfl
    unfold rz
    rw [Int.natAbs_neg, e, ← negate_roundRatio, zval_negate]
theorem rz_ge {N : Int} {D : Nat} (hD : 0 < D) {V : Datum} (hV : Jvm.FP.Core.fits b64 V) (hn : V ≠ .nan) (h : zval b64 V * (D : Int) ≤ N) : zval b64 V ≤ rz N D := by
  have q := rz_le (N := -N) hD (negate_fits hV) (negate_ne_nan hn) (by rw [zval_negate, Int.neg_mul]; omega)
  rw [zval_negate, rz_neg] at q
  omega
theorem rz_rep (N : Int) {D : Nat} (hD : 0 < D) : Rep (rz N D) := ⟨_, roundRatio_fits good_b64 _ _ hD _, roundRatio_ne_nan _ _ _ _ _, rfl⟩
theorem rz_up {N k : Int} (h : Rep k) {D : Nat} (hD : 0 < D) (q : N ≤ k * (D : Int)) : rz N D ≤ k := by
  obtain ⟨V, h1, h2, rfl⟩ := h
  exact rz_le hD h1 h2 q
theorem rz_lo {N k : Int} (h : Rep k) {D : Nat} (hD : 0 < D) (q : k * (D : Int) ≤ N) : k ≤ rz N D := by
  obtain ⟨V, h1, h2, rfl⟩ := h
  exact rz_ge hD h1 h2 q
theorem rz_exact {k : Int} (h : Rep k) {D : Nat} (hD : 0 < D) : rz (k * (D : Int)) D = k := Int.le_antisymm (rz_up h hD (Int.le_refl _)) (rz_lo h hD (Int.le_refl _))
theorem Rep.neg {k : Int} (h : Rep k) : Rep (-k) := by
  obtain ⟨V, h1, h2, rfl⟩ := h
  exact ⟨_, negate_fits h1, negate_ne_nan h2, zval_negate _ _⟩
theorem sg_abs (k : Int) : signed (decide (k < 0)) k.natAbs = k := by
  unfold signed
  by_cases h : k < 0
  · rw [if_pos (decide_eq_true h)]; omega
  · rw [if_neg (by simp [h])]; omega
theorem rep_pow {k : Int} {j : Nat} (hk : k.natAbs < 2 ^ 53) (h1 : 52 ≤ j) (h2 : j ≤ 1900) : Rep (k * ((2 ^ j : Nat) : Int)) := by
  by_cases h0 : k = 0
  · subst h0
    refine ⟨.fin false 0 b64.qmin, zero_fits good_b64 false, Datum.noConfusion, ?_⟩
    rw [Int.zero_mul]
    show signed false (inUnits 0 _ _) = 0
    rw [iu]; rfl
  · have l1 : 2 ^ k.natAbs.log2 ≤ k.natAbs := Nat.log2_self_le (by omega)
    have l2 : k.natAbs < 2 ^ (k.natAbs.log2 + 1) := Nat.lt_log2_self
    have l3 : k.natAbs.log2 < 53 := (Nat.pow_lt_pow_iff_right (by decide : 1 < 2)).mp (Nat.lt_of_le_of_lt l1 hk)
    generalize k.natAbs.log2 = L at l1 l2 l3
    obtain ⟨d, hd⟩ : ∃ d, d = 52 - L := ⟨_, rfl⟩
    have c1 : k.natAbs * 2 ^ d < 2 ^ 53 := by
      calc k.natAbs * 2 ^ d < 2 ^ (L + 1) * 2 ^ d := Nat.mul_lt_mul_of_pos_right l2 (Nat.two_pow_pos _)
        _ = 2 ^ (L + 1 + d) := (Nat.pow_add _ _ _).symm
        _ = 2 ^ 53 := by rw [show L + 1 + d = 53 by omega]
    have c2 : 2 ^ 52 ≤ k.natAbs * 2 ^ d := by
      calc 2 ^ 52 = 2 ^ (L + d) := by rw [show L + d = 52 by omega]
        _ = 2 ^ L * 2 ^ d := Nat.pow_add _ _ _
        _ ≤ k.natAbs * 2 ^ d := Nat.mul_le_mul_right _ l1
    refine ⟨.fin (decide (k < 0)) (k.natAbs * 2 ^ d) ((j : Int) - d - 1074), ⟨c1, ?_, ?_, Or.inr ?_⟩, Datum.noConfusion, ?_⟩
    · rw [qmin_b64]; omega
    · rw [show b64.qmax = 971 by decide]; omega
    · rw [tails_b64]; exact c2
    · show signed _ (inUnits _ _ b64.qmin) = _
      unfold inUnits
      rw [qmin_b64, show ((j : Int) - d - 1074 - -1074).toNat = j - d by omega, Nat.mul_assoc, ← Nat.pow_add, show d + (j - d) = j by omega, signed_mul]
      show signed (decide (k < 0)) k.natAbs * _ = _
      rw [sg_abs]
theorem rep_U {k : Int} (hk : k.natAbs < 2 ^ 53) : Rep (k * (one64 : Int)) := rep_pow (j := 1074) hk (by decide) (by decide)
theorem rep_0 : Rep 0 := by have := rep_U (k := 0) (by decide); rw [Int.zero_mul] at this; exact this
theorem rz_abs {N : Int} {D K : Nat} (hD : 0 < D) (hK : Rep (K : Int)) (h : N.natAbs ≤ K * D) : (rz N D).natAbs ≤ K := by
  have a := rz_up (N := N) hK hD (by rw [← Int.natCast_mul]; omega)
  have b := rz_lo (N := N) hK.neg hD (by rw [Int.neg_mul, ← Int.natCast_mul]; omega)
  omega
theorem rz_congr {N N' : Int} {D D' : Nat} (hD : 0 < D) (hD' : 0 < D') (h : N * (D' : Int) = N' * (D : Int)) : rz N D = rz N' D' := by
  have p1 : (0 : Int) < (D : Int) := by omega
  have p2 : (0 : Int) < (D' : Int) := by omega
  have hs : N < 0 ↔ N' < 0 := by
    constructor
    · intro q
      refine Int.lt_of_not_ge fun z => ?_
      have a := Int.mul_neg_of_neg_of_pos q p2
      have b := Int.mul_nonneg z (Int.le_of_lt p1)
      omega
    · intro q
      refine Int.lt_of_not_ge fun z => ?_
      have a := Int.mul_neg_of_neg_of_pos q p1
      have b := Int.mul_nonneg z (Int.le_of_lt p2)
      omega
  have ha : N.natAbs * D' = N'.natAbs * D := by
    have q := congrArg Int.natAbs h
    rw [Int.natAbs_mul, Int.natAbs_mul, Int.natAbs_natCast, Int.natAbs_natCast] at q
    exact q
  unfold rz
  rw [show decide (N < 0) = decide (N' < 0) from decide_eq_decide.mpr hs, roundRatio_congr hD hD' (by rw [Int.sub_self]; simpa using ha)]
theorem zval_rr (u : Bool) (M D : Nat) : zval b64 (roundRatio b64 u M D b64.qmin) = rz (signed u M) D := by
  by_cases h : M = 0
  · subst h
    rw [signed_zero, rz_zero]
    unfold roundRatio
    rw [if_pos rfl]
    show signed _ (inUnits 0 _ _) = 0
    rw [iu, signed_zero]
  · unfold rz
    rw [natAbs_signed, signed_lt_zero u (Nat.pos_of_ne_zero h)]
theorem top_eq : 2 ^ 100 * one64 = 2 ^ 1174 := by unfold one64; rw [← Nat.pow_add]
theorem fin_rr (s : Bool) {A D : Nat} (hD : 0 < D) (h : A ≤ 2 ^ 100 * one64 * D) : ∃ c q, roundRatio b64 s A D b64.qmin = .fin s c q := by
  rcases roundRatio_cases b64 s A D b64.qmin with q | q
  · exact q
  · exfalso
    obtain ⟨V, v1, v2, v3⟩ := rep_pow (k := 1) (j := 1174) (by decide) (by decide) (by decide)
    have hv : zmag b64 V = 2 ^ 1174 := by
      have := congrArg Int.natAbs v3
      unfold zval at this
      rw [natAbs_signed, Int.one_mul, Int.natAbs_natCast] at this
      exact this
    have hle := zmag_roundRatio_le good_b64 (s := s) (A := A) (e := b64.qmin) (e0 := b64.qmin) hD v1 v2 (Int.le_refl _) (Int.le_refl _) (by rw [iu, Int.sub_self, Int.toNat_zero, Nat.pow_zero, Nat.mul_one, hv, ← top_eq]; exact h)
    rw [q, hv] at hle
    have hle' : b64.tails * 2 ^ (b64.exps - 2) ≤ 2 ^ 1174 := hle
    have : (2 : Nat) ^ 1174 < b64.tails * 2 ^ (b64.exps - 2) := by decide +kernel
    exact absurd hle' (Nat.not_le.mpr this)
theorem rz_mono_nat {A A' D D' : Nat} (hD : 0 < D) (hD' : 0 < D') (h : A * D' ≤ A' * D) (b : A ≤ 2 ^ 100 * one64 * D) (b' : A' ≤ 2 ^ 100 * one64 * D') :
    zmag b64 (roundRatio b64 false A D b64.qmin) ≤ zmag b64 (roundRatio b64 false A' D' b64.qmin) := by
  obtain ⟨c, q, hR⟩ := fin_rr false hD b
  obtain ⟨c', q', hR'⟩ := fin_rr false hD' b'
  have f1 := roundRatio_fits good_b64 false A hD b64.qmin
  have f2 := roundRatio_fits good_b64 false A' hD' b64.qmin
  rw [hR] at f1
  rw [hR'] at f2
  have d1 := roundRatio_nearest good_b64 (e0 := b64.qmin) hD hR f2.1 f2.2.1 (Int.le_refl _) (Int.le_refl _)
  have d2 := roundRatio_nearest good_b64 (e0 := b64.qmin) hD' hR' f1.1 f1.2.1 (Int.le_refl _) (Int.le_refl _)
  unfold distance at d1 d2
  rw [iu] at d1 d2
  refine Nat.le_of_not_lt fun hlt => ?_
  rw [hR, hR'] at hlt
  change inUnits c' q' b64.qmin < inUnits c q b64.qmin at hlt
  generalize hx : inUnits c q b64.qmin = x at *
  generalize hx' : inUnits c' q' b64.qmin = x' at *
  have m1 : x' * D < x * D := Nat.mul_lt_mul_of_pos_right hlt hD
  have m2 : x' * D' < x * D' := Nat.mul_lt_mul_of_pos_right hlt hD'
  rw [← Int.natCast_mul, ← Int.natCast_mul] at d1 d2
  have g1 : x * D + x' * D ≤ 2 * A := by
    clear m2 d2 h b b'
    generalize x * D = P at *
    generalize x' * D = P' at *
    omega
  have g2 : 2 * A' ≤ x * D' + x' * D' := by
    clear m1 d1 h b b' g1
    generalize x * D' = P at *
    generalize x' * D' = P' at *
    omega
  have g3 := Nat.mul_le_mul_right D' g1
  have g4 := Nat.mul_le_mul_right D g2
  have g5 : (x * D + x' * D) * D' = (x * D' + x' * D') * D := by rw [Nat.add_mul, Nat.add_mul, Nat.mul_right_comm x, Nat.mul_right_comm x']
  have g6 : A * D' = A' * D := by
    rw [Nat.mul_assoc, g5] at g3
    rw [Nat.mul_assoc] at g4
    omega
  have z := roundRatio_congr (f := b64) (s := false) (e := b64.qmin) (e' := b64.qmin) hD hD' (by rw [Int.sub_self]; simpa using g6)
  rw [hR, hR'] at z
  cases z
  have := hx.symm.trans hx'
  omega
theorem rz_pos (A D : Nat) : rz (A : Int) D = ((zmag b64 (roundRatio b64 false A D b64.qmin) : Nat) : Int) := by
  have h := zval_rr false A D
  show rz (signed false A) D = _
  rw [← h]
  unfold zval
  rw [sgn_roundRatio]
  rfl
theorem rz_mono_pos {N N' : Int} {D D' : Nat} (hD : 0 < D) (hD' : 0 < D') (h0 : 0 ≤ N) (h : N * (D' : Int) ≤ N' * (D : Int)) (b : N.natAbs ≤ 2 ^ 100 * one64 * D) (b' : N'.natAbs ≤ 2 ^ 100 * one64 * D') : rz N D ≤ rz N' D' := by
  have p1 : (0 : Int) < (D : Int) := by omega
  have h1 : 0 ≤ N' := by
    refine Int.le_of_not_gt fun q => ?_
    have a := Int.mul_neg_of_neg_of_pos q p1
    have b := Int.mul_nonneg h0 (Int.natCast_nonneg D')
    omega
  obtain ⟨A, rfl⟩ := Int.eq_ofNat_of_zero_le h0
  obtain ⟨A', rfl⟩ := Int.eq_ofNat_of_zero_le h1
  rw [rz_pos, rz_pos]
  have := rz_mono_nat (A := A) (A' := A') (D := D) (D' := D') hD hD' (by have := h; rw [← Int.natCast_mul, ← Int.natCast_mul] at this; omega) (by simpa using b) (by simpa using b')
  omega
theorem rz_mono {N N' : Int} {D D' : Nat} (hD : 0 < D) (hD' : 0 < D') (h : N * (D' : Int) ≤ N' * (D : Int)) (b : N.natAbs ≤ 2 ^ 100 * one64 * D) (b' : N'.natAbs ≤ 2 ^ 100 * one64 * D') : rz N D ≤ rz N' D' := by
  by_cases h1 : 0 ≤ N
  · exact rz_mono_pos hD hD' h1 h b b'
  · by_cases h2 : 0 ≤ N'
    · exact Int.le_trans (rz_up rep_0 hD (by omega)) (rz_lo rep_0 hD' (by omega))
    · have := rz_mono_pos (N := -N') (N' := -N) hD' hD (by omega) (by rw [Int.neg_mul, Int.neg_mul]; omega) (by rw [Int.natAbs_neg]; exact b') (by rw [Int.natAbs_neg]; exact b)
      rw [rz_neg, rz_neg] at this
      omega
theorem rz_two {N : Int} {D : Nat} (hD : 0 < D) (h : N = 0 ∨ 2 ^ 52 * D ≤ N.natAbs) (b : N.natAbs ≤ 2 ^ 99 * one64 * D) : rz (2 * N) D = 2 * rz N D := by
  rcases h with rfl | h
  · rw [Int.mul_zero, rz_zero]; rfl
  have hA : 0 < N.natAbs := Nat.lt_of_lt_of_le (Nat.mul_pos (Nat.two_pow_pos _) hD) h
  have e99 : (2 : Nat) ^ 100 * one64 * D = 2 * (2 ^ 99 * one64 * D) := by
    rw [show (2 : Nat) ^ 100 = 2 * 2 ^ 99 by decide, Nat.mul_assoc, Nat.mul_assoc, Nat.mul_assoc]
  have b1 : N.natAbs ≤ 2 ^ 100 * one64 * D := by omega
  have b2 : 2 * N.natAbs ≤ 2 ^ 100 * one64 * D := by omega
  have s2 : decide (2 * N < 0) = decide (N < 0) := decide_eq_decide.mpr (by omega)
  have a2 : (2 * N).natAbs = 2 * N.natAbs := by omega
  unfold rz
  rw [s2, a2]
  clear s2 a2 e99 b
  generalize decide (N < 0) = s
  generalize N.natAbs = A at *
  have hc : roundRatio b64 s (2 * A) D b64.qmin = roundRatio b64 s A D (b64.qmin + 1) := roundRatio_congr hD hD (by
    rw [show (b64.qmin - (b64.qmin + 1)).toNat = 0 by omega, show (b64.qmin + 1 - b64.qmin).toNat = 1 by omega, Nat.pow_zero, Nat.pow_one, Nat.mul_one, Nat.mul_assoc, Nat.mul_comm])
  obtain ⟨c1, q1, h1⟩ := fin_rr s hD b1
  obtain ⟨c2, q2, h2⟩ := fin_rr s hD b2
  rw [h1, h2]
  rw [hc] at h2
  have ld : (52 : Int) < leading A D + 1 := lt_of_below (A := A) (B := D) (fun q => by
    have q' : A * 1 < D * 2 ^ 52 := q
    omega) (leading_spec hA hD).2
  have hm := nearest_units_le (f := b64) hA hD b64.qmin
  have hq : quantum b64 A D b64.qmin = leading A D + b64.qmin - 52 := by
    unfold quantum
    rw [show ((b64.p : Int) - 1) = 52 by decide]; omega
  have hq' : quantum b64 A D (b64.qmin + 1) = leading A D + b64.qmin - 52 + 1 := by
    unfold quantum
    rw [show ((b64.p : Int) - 1) = 52 by decide]; omega
  unfold roundRatio at h1 h2
  rw [if_neg (by omega)] at h1 h2
  unfold roundAt at h1 h2
  rw [hq] at h1 hm
  rw [hq'] at h2
  generalize hr : leading A D + b64.qmin - 52 = r at *
  have u1 : unitsNum A (b64.qmin + 1) (r + 1) = unitsNum A b64.qmin r := by
    unfold unitsNum; rw [show b64.qmin + 1 - (r + 1) = b64.qmin - r by omega]
  have u2 : unitsDen D (b64.qmin + 1) (r + 1) = unitsDen D b64.qmin r := by
    unfold unitsDen; rw [show r + 1 - (b64.qmin + 1) = r - b64.qmin by omega]
  rw [u1, u2] at h2
  generalize nearest (unitsNum A b64.qmin r) (unitsDen D b64.qmin r) = k at *
  have v1 := (settle_value good_b64 (e0 := b64.qmin) hm h1 (by omega)).2
  have v2 := (settle_value good_b64 (e0 := b64.qmin) hm h2 (by omega)).2
  show signed s (inUnits c2 q2 b64.qmin) = 2 * signed s (inUnits c1 q1 b64.qmin)
  have v3 : inUnits k (r + 1) b64.qmin = inUnits k r b64.qmin * 2 := by
    unfold inUnits
    rw [show (r + 1 - b64.qmin).toNat = (r - b64.qmin).toNat + 1 by omega, Nat.pow_succ, Nat.mul_assoc]
  rw [v1, v2, v3, signed_mul]
  omega
/-! the four operations -/
def Dv (a : UInt64) (k : Int) : Prop := DFin a ∧ zval b64 (val64 a) = k
theorem Dv.nn {a : UInt64} {k : Int} (h : Dv a k) : Jvm.Free.Fl.NoNaN64 a := Jvm.Free.Fl.noNaN64_no.mpr h.1.notNaN
theorem Dv.rep {a : UInt64} {k : Int} (h : Dv a k) : Rep k := ⟨_, val64_fits a, h.1.ne_nan, h.2⟩
theorem pw (c d X Y u v : Nat) (h : 1074 + u = X + Y + v) : c * d * one64 * 2 ^ u = c * 2 ^ X * (d * 2 ^ Y) * 1 * 2 ^ v := by
  have e : one64 * 2 ^ u = 2 ^ X * 2 ^ Y * 2 ^ v := by unfold one64; rw [← Nat.pow_add, h, Nat.pow_add, Nat.pow_add]
  rw [Nat.mul_assoc (c * d), e, Nat.mul_one]; ac_rfl
theorem pw2 (c d X Y u v : Nat) (h : Y + u = X + 1074 + v) : c * (d * 2 ^ Y) * 2 ^ u = c * 2 ^ X * one64 * d * 2 ^ v := by
  have e : 2 ^ Y * 2 ^ u = 2 ^ X * one64 * 2 ^ v := by unfold one64; rw [← Nat.pow_add, h, Nat.pow_add, Nat.pow_add]
  calc c * (d * 2 ^ Y) * 2 ^ u = c * d * (2 ^ Y * 2 ^ u) := by ac_rfl
    _ = c * d * (2 ^ X * one64 * 2 ^ v) := by rw [e]
    _ = c * 2 ^ X * one64 * d * 2 ^ v := by generalize one64 = w; ac_rfl
theorem dv_mul {a b : UInt64} {j k : Int} (ha : Dv a j) (hb : Dv b k) (h : (j * k).natAbs ≤ 2 ^ 100 * one64 * one64) : Dv (dmul a b) (rz (j * k) one64) := by
  obtain ⟨⟨s, c, q, ha⟩, rfl⟩ := ha
  obtain ⟨⟨t, d, r, hb⟩, rfl⟩ := hb
  have fa := val64_fits a
  have fb := val64_fits b
  rw [ha] at fa h ⊢
  rw [hb] at fb h ⊢
  obtain ⟨-, pq, -⟩ := fa
  obtain ⟨-, pr, -⟩ := fb
  have e : val64 (dmul a b) = roundRatio b64 (s != t) (inUnits c q b64.qmin * inUnits d r b64.qmin) one64 b64.qmin := by
    rw [val64_dmul, ha, hb]
    show roundRatio b64 (s != t) (c * d) 1 (q + r) = _
    exact roundRatio_congr (by decide) one64_pos (pw c d _ _ _ _ (by have := qmin_b64; omega))
  have n : zval b64 (.fin s c q) * zval b64 (.fin t d r) = signed (s != t) (inUnits c q b64.qmin * inUnits d r b64.qmin) := (signed_xor s t _ _).symm
  rw [n] at h ⊢
  rw [natAbs_signed] at h
  refine ⟨?_, by rw [e, zval_rr]⟩
  obtain ⟨c', q', z⟩ := fin_rr (s != t) one64_pos h
  exact ⟨_, c', q', e.trans z⟩
theorem dv_div {a b : UInt64} {j k : Int} (ha : Dv a j) (hb : Dv b k) (hk : 0 < k) (h : (j * (one64 : Int)).natAbs ≤ 2 ^ 100 * one64 * k.natAbs) : Dv (ddiv a b) (rz (j * (one64 : Int)) k.natAbs) := by
  obtain ⟨⟨s, c, q, ha⟩, rfl⟩ := ha
  obtain ⟨⟨t, d, r, hb⟩, rfl⟩ := hb
  have fa := val64_fits a
  have fb := val64_fits b
  rw [ha] at fa h ⊢
  rw [hb] at fb hk h ⊢
  obtain ⟨-, pq, -⟩ := fa
  obtain ⟨-, pr, -⟩ := fb
  have y : (zval b64 (.fin t d r)).natAbs = inUnits d r b64.qmin := natAbs_signed _ _
  have ht : t = false := by
    cases t with
    | false => rfl
    | true =>
      exfalso
      have : zval b64 (.fin true d r) = -((inUnits d r b64.qmin : Nat) : Int) := rfl
      omega
  subst ht
  have hy : 0 < inUnits d r b64.qmin := by rw [← y]; omega
  have hd : d ≠ 0 := fun z => by subst z; unfold inUnits at hy; rw [Nat.zero_mul] at hy; exact absurd hy (Nat.lt_irrefl 0)
  have e : val64 (ddiv a b) = roundRatio b64 s (inUnits c q b64.qmin * one64) (inUnits d r b64.qmin) b64.qmin := by
    rw [val64_ddiv, ha, hb]
    show (if d = 0 then _ else roundRatio b64 (s != false) c d (q - r)) = _
    rw [if_neg hd, show (s != false) = s by cases s <;> rfl]
    exact roundRatio_congr (Nat.pos_of_ne_zero hd) hy (pw2 c d _ _ _ _ (by have := qmin_b64; omega))
  have n : zval b64 (.fin s c q) * (one64 : Int) = signed s (inUnits c q b64.qmin * one64) := (signed_mul s _ _).symm
  rw [n, y] at h ⊢
  rw [natAbs_signed] at h
  refine ⟨?_, by rw [e, zval_rr]⟩
  obtain ⟨c', q', z⟩ := fin_rr s hy h
  exact ⟨_, c', q', e.trans z⟩
theorem dv_add {a b : UInt64} {j k : Int} (ha : Dv a j) (hb : Dv b k) (h : (j + k).natAbs ≤ 2 ^ 100 * one64) : Dv (dadd a b) (rz (j + k) 1) := by
  obtain ⟨⟨s, c, q, ha⟩, rfl⟩ := ha
  obtain ⟨⟨t, d, r, hb⟩, rfl⟩ := hb
  have fa := val64_fits a
  have fb := val64_fits b
  rw [ha] at fa h ⊢
  rw [hb] at fb h ⊢
  obtain ⟨sg, n, e, h1, h2, h3⟩ := sum_units fa fb
  have v : val64 (dadd a b) = roundRatio b64 sg (inUnits n e b64.qmin) 1 b64.qmin := by
    rw [val64_dadd, ha, hb, h1]
    exact (round_inUnits sg n h2).symm
  rw [← h3] at h ⊢
  rw [natAbs_signed] at h
  refine ⟨?_, by rw [v, zval_rr]⟩
  obtain ⟨c', q', z⟩ := fin_rr sg (D := 1) (by decide) (by rw [Nat.mul_one]; exact h)
  exact ⟨_, c', q', v.trans z⟩
theorem dv_i2d (x : Int32) : Dv (i2d x) (x.toInt * (one64 : Int)) := ⟨i2d_fin x, DInt_zval (i2d_int x)⟩
theorem dv_l2d {x : Int64} (h : x.toInt.natAbs ≤ 2 ^ 53) : Dv (l2d x) (x.toInt * (one64 : Int)) := ⟨l2d_fin x, DInt_zval (l2d_int h)⟩
theorem dv_neg {a : UInt64} {k : Int} (ha : Dv a k) : Dv (Jvm.FP.dneg a) (-k) := by
  obtain ⟨⟨s, c, q, ha⟩, rfl⟩ := ha
  have e := Jvm.FP.val64_dneg a
  exact ⟨⟨!s, c, q, by rw [e, ha]; rfl⟩, by rw [e, zval_negate]⟩
theorem one_pos' : (0 : Int) < (one64 : Int) := by have := one64_pos; omega
theorem dv_mulU {a b : UInt64} {J k : Int} (ha : Dv a (J * (one64 : Int))) (hb : Dv b k) (h : (J * k).natAbs ≤ 2 ^ 100 * one64) : Dv (dmul a b) (rz (J * k) 1) := by
  have e : J * (one64 : Int) * k = J * k * (one64 : Int) := Int.mul_right_comm _ _ _
  have q := dv_mul ha hb (by rw [e, Int.natAbs_mul, Int.natAbs_natCast]; exact Nat.mul_le_mul_right _ h)
  rw [e, rz_congr (N' := J * k) (D' := 1) one64_pos (by decide) (Int.mul_one _)] at q
  exact q
theorem dv_mulX {a b : UInt64} {J k : Int} (ha : Dv a (J * (one64 : Int))) (hb : Dv b k) (h : (J * k).natAbs ≤ 2 ^ 100 * one64) (r : Rep (J * k)) : Dv (dmul a b) (J * k) := by
  have q := dv_mulU ha hb h
  have e := rz_exact r (D := 1) (by decide)
  rw [show J * k * ((1 : Nat) : Int) = J * k from Int.mul_one _] at e
  rw [e] at q
  exact q
theorem dv_divU {a b : UInt64} {j K : Int} (ha : Dv a j) (hb : Dv b (K * (one64 : Int))) (hK : 0 < K) (h : j.natAbs ≤ 2 ^ 100 * one64 * K.natAbs) : Dv (ddiv a b) (rz j K.natAbs) := by
  have e : (K * (one64 : Int)).natAbs = K.natAbs * one64 := by rw [Int.natAbs_mul, Int.natAbs_natCast]
  have hp : 0 < K.natAbs := by omega
  have q := dv_div ha hb (Int.mul_pos hK one_pos') (by rw [e, Int.natAbs_mul, Int.natAbs_natCast, ← Nat.mul_assoc]; exact Nat.mul_le_mul_right _ h)
  rw [e, rz_congr (N' := j) (D' := K.natAbs) (Nat.mul_pos hp one64_pos) hp (by rw [Int.natCast_mul, Int.mul_right_comm, Int.mul_assoc])] at q
  exact q
theorem dv_addU {a b : UInt64} {J K : Int} (ha : Dv a (J * (one64 : Int))) (hb : Dv b (K * (one64 : Int))) (h : (J + K).natAbs < 2 ^ 53) : Dv (dadd a b) ((J + K) * (one64 : Int)) := by
  have e : J * (one64 : Int) + K * (one64 : Int) = (J + K) * (one64 : Int) := (Int.add_mul _ _ _).symm
  have q := dv_add ha hb (by
    rw [e, Int.natAbs_mul, Int.natAbs_natCast]
    exact Nat.mul_le_mul_right _ (by have : (2 : Nat) ^ 53 ≤ 2 ^ 100 := by decide
                                     omega))
  have z := rz_exact (rep_U h) (D := 1) (by decide)
  rw [show (J + K) * (one64 : Int) * ((1 : Nat) : Int) = (J + K) * (one64 : Int) from Int.mul_one _] at z
  rw [e, z] at q
  exact q
theorem dv_cmp {a b : UInt64} {j k : Int} (ha : Dv a j) (hb : Dv b k) : Jvm.FP.dcmp a b = some (compare j k) := by
  have q := dcmp_zval ha.1.ne_nan hb.1.ne_nan
  rw [ha.2, hb.2] at q
  exact q
theorem dv_eq {a b : UInt64} {j k : Int} (ha : Dv a j) (hb : Dv b k) (h : j = k) : Jvm.FP.dcmp a b = some .eq := by rw [dv_cmp ha hb, (compare_eq_iff j k).mpr h]
theorem dv_lt {a b : UInt64} {j k : Int} (ha : Dv a j) (hb : Dv b k) (h : j < k) : Jvm.FP.dcmp a b = some .lt := by rw [dv_cmp ha hb, (compare_lt_iff j k).mpr h]
theorem dv_gt {a b : UInt64} {j k : Int} (ha : Dv a j) (hb : Dv b k) (h : k < j) : Jvm.FP.dcmp a b = some .gt := by rw [dv_cmp ha hb, (compare_gt_iff j k).mpr h]
theorem dv_le {a b : UInt64} {j k : Int} (ha : Dv a j) (hb : Dv b k) (h : j ≤ k) : Jvm.FP.dcmp a b = some .lt ∨ Jvm.FP.dcmp a b = some .eq := by
  by_cases q : j = k
  · exact Or.inr (dv_eq ha hb q)
  · exact Or.inl (dv_lt ha hb (by omega))
theorem dv0 : Dv Jvm.FP.dconst0 (0 * (one64 : Int)) := ⟨⟨false, 0, -1074, by decide +kernel⟩, by decide +kernel⟩
theorem dv1 : Dv Jvm.FP.dconst1 (1 * (one64 : Int)) := ⟨⟨false, 4503599627370496, -52, by decide +kernel⟩, by decide +kernel⟩
theorem dv2 : Dv 4611686018427387904 (2 * (one64 : Int)) := ⟨⟨false, 4503599627370496, -51, by decide +kernel⟩, by decide +kernel⟩
theorem dv3 : Dv 4613937818241073152 (3 * (one64 : Int)) := ⟨⟨false, 6755399441055744, -51, by decide +kernel⟩, by decide +kernel⟩
theorem dv4 : Dv 4616189618054758400 (4 * (one64 : Int)) := ⟨⟨false, 4503599627370496, -50, by decide +kernel⟩, by decide +kernel⟩
/-! the score -/
def scf (x : UInt64) (f : Int32) (l : UInt64) : UInt64 := Jvm.FP.ddiv (Jvm.FP.dmul (Jvm.FP.dmul x (Jvm.FP.i2d f)) (4612136378390124954 : UInt64)) (Jvm.FP.dadd (Jvm.FP.i2d f) l)
def c22 : Int := 4953959590107546 * ((2 ^ 1023 : Nat) : Int)
theorem dv_c22 : Dv 4612136378390124954 c22 := ⟨⟨false, 4953959590107546, -51, by decide +kernel⟩, by decide +kernel⟩
theorem c22_lo : (one64 : Int) ≤ c22 := by decide +kernel
theorem c22_hi : 2 * c22 ≤ 5 * (one64 : Int) := by decide +kernel
theorem c22_abs : c22.natAbs ≤ 4 * one64 := by have := c22_lo; have := c22_hi; omega
theorem rz_idem (X : Int) : rz (rz X 1) 1 = rz X 1 := by
  have q := rz_exact (rz_rep X (D := 1) (by decide)) (D := 1) (by decide)
  rw [show rz X 1 * ((1 : Nat) : Int) = rz X 1 from Int.mul_one _] at q
  exact q
theorem rep_K {K : Nat} (h : K < 2 ^ 53) : Rep ((K * one64 : Nat) : Int) := by
  have q := rep_U (k := (K : Int)) (by omega)
  rw [← Int.natCast_mul] at q
  exact q
theorem b_c22 {x : Int} (h : x.natAbs ≤ 2 ^ 50) : (x * c22).natAbs ≤ 2 ^ 52 * one64 := by
  rw [Int.natAbs_mul]
  have := Nat.mul_le_mul h c22_abs
  rw [← Nat.mul_assoc, show (2 : Nat) ^ 50 * 4 = 2 ^ 52 by decide] at this
  exact this
theorem b_q {x : Int} (h : x.natAbs ≤ 2 ^ 50) : (rz (x * c22) 1).natAbs ≤ 2 ^ 52 * one64 := rz_abs (by decide) (rep_K (K := 2 ^ 52) (by decide)) (by rw [Nat.mul_one]; exact b_c22 h)
theorem sc_val {x l : UInt64} {f : Int32} {A L : Int} (hx : Dv x (A * (one64 : Int))) (hl : Dv l (L * (one64 : Int))) (hA : A.natAbs ≤ 2 ^ 33) (hf0 : 0 ≤ f.toInt) (hf1 : f.toInt ≤ 131072) (hL0 : 0 ≤ L) (hL1 : L ≤ 262144) (hp : 0 < f.toInt + L) :
    Jvm.Free.Fl.NoNaN64 (Jvm.FP.dmul x (Jvm.FP.i2d f)) ∧ Jvm.Free.Fl.NoNaN64 (Jvm.FP.dmul (Jvm.FP.dmul x (Jvm.FP.i2d f)) (4612136378390124954 : UInt64)) ∧ Jvm.Free.Fl.NoNaN64 (Jvm.FP.dadd (Jvm.FP.i2d f) l) ∧ Jvm.Free.Fl.NoNaN64 (scf x f l) ∧ Dv (scf x f l) (rz (rz (A * f.toInt * c22) 1) (f.toInt + L).natAbs) := by
  have hf := dv_i2d f
  have b1 : (A * f.toInt).natAbs ≤ 2 ^ 50 := by
    rw [Int.natAbs_mul]
    exact Nat.le_trans (Nat.mul_le_mul hA (show f.toInt.natAbs ≤ 2 ^ 17 by omega)) (by decide)
  have b2 : (A * f.toInt).natAbs < 2 ^ 53 := Nat.lt_of_le_of_lt b1 (by decide)
  have d1 : Dv (dmul x (i2d f)) (A * f.toInt * (one64 : Int)) := by
    have q := dv_mulX hx hf (by rw [← Int.mul_assoc, Int.natAbs_mul, Int.natAbs_natCast]; exact Nat.mul_le_mul_right _ (Nat.le_trans b1 (by decide))) (by rw [← Int.mul_assoc]; exact rep_U b2)
    rw [← Int.mul_assoc] at q
    exact q
  have d2 := dv_mulU d1 dv_c22 (Nat.le_trans (b_c22 b1) (Nat.mul_le_mul_right _ (by decide)))
  have d3 := dv_addU hf hl (by omega)
  have d4 := dv_divU d2 d3 hp (Nat.le_trans (b_q b1) (Nat.le_trans (Nat.mul_le_mul_right one64 (show 2 ^ 52 ≤ 2 ^ 100 by decide)) (Nat.le_mul_of_pos_right _ (by omega))))
  exact ⟨d1.nn, d2.nn, d3.nn, d4.nn, d4⟩
theorem abs31 (a : Int32) : a.toInt.natAbs ≤ 2 ^ 33 := Nat.le_trans (int32_abs a) (by decide)
theorem abs50 (a : Int32) : a.toInt.natAbs ≤ 2 ^ 50 := Nat.le_trans (int32_abs a) (by decide)
theorem dv_ac (a : Int32) : Dv (Jvm.FP.dmul (Jvm.FP.i2d a) (4612136378390124954 : UInt64)) (rz (a.toInt * c22) 1) := dv_mulU (dv_i2d a) dv_c22 (Nat.le_trans (b_c22 (abs50 a)) (Nat.mul_le_mul_right _ (by decide)))
theorem dv_ac2 (a : Int32) : Dv (Jvm.FP.ddiv (Jvm.FP.dmul (Jvm.FP.i2d a) (4612136378390124954 : UInt64)) (4611686018427387904 : UInt64)) (rz (rz (a.toInt * c22) 1) 2) := by
  have h : (rz (a.toInt * c22) 1).natAbs ≤ 2 ^ 100 * one64 * (2 : Int).natAbs := by
    refine Nat.le_trans (b_q (abs50 a)) (Nat.le_trans (Nat.mul_le_mul_right one64 (show 2 ^ 52 ≤ 2 ^ 100 by decide)) ?_)
    rw [show (2 : Int).natAbs = 2 from rfl]
    generalize one64 = w
    omega
  have q := dv_divU (dv_ac a) dv2 (by decide) h
  exact q
def k1 (a : Int32) := sc_val (f := 1) (dv_i2d a) dv0 (abs31 a) (by decide) (by decide) (by decide) (by decide) (by decide)
def k2 (a : Int32) := sc_val (f := 1) (dv_i2d a) dv1 (abs31 a) (by decide) (by decide) (by decide) (by decide) (by decide)
theorem e1 (a : Int32) : Jvm.FP.dcmp (scf (Jvm.FP.i2d a) 1 Jvm.FP.dconst0) (Jvm.FP.dmul (Jvm.FP.i2d a) (4612136378390124954 : UInt64)) = some .eq := dv_eq (k1 a).2.2.2.2 (dv_ac a) (by
  rw [show (1 : Int32).toInt = 1 from rfl, Int.mul_one]; exact rz_idem _)
theorem e2 (a : Int32) : Jvm.FP.dcmp (scf (Jvm.FP.i2d a) 1 Jvm.FP.dconst1) (Jvm.FP.ddiv (Jvm.FP.dmul (Jvm.FP.i2d a) (4612136378390124954 : UInt64)) (4611686018427387904 : UInt64)) = some .eq := dv_eq (k2 a).2.2.2.2 (dv_ac2 a) (by
  rw [show (1 : Int32).toInt = 1 from rfl, Int.mul_one]; rfl)
section
variable {a f l : Int32}
theorem dv_l1 (hl : 0 ≤ l.toInt ∧ l.toInt ≤ 65535) : Dv (Jvm.FP.dadd (Jvm.FP.i2d l) Jvm.FP.dconst1) ((l.toInt + 1) * (one64 : Int)) := dv_addU (dv_i2d l) dv1 (by omega)
def k3 (hl : 0 ≤ l.toInt ∧ l.toInt ≤ 65535) := sc_val (f := 0) (dv_i2d a) (dv_l1 hl) (abs31 a) (by decide) (by decide) (by omega) (by omega) (by rw [show (0 : Int32).toInt = 0 from rfl]; omega)
theorem e3 (hl : 0 ≤ l.toInt ∧ l.toInt ≤ 65535) : Jvm.FP.dcmp (scf (Jvm.FP.i2d a) 0 (Jvm.FP.dadd (Jvm.FP.i2d l) Jvm.FP.dconst1)) Jvm.FP.dconst0 = some .eq := dv_eq (k3 (a := a) hl).2.2.2.2 dv0 (by
  rw [show (0 : Int32).toInt = 0 from rfl, Int.mul_zero, Int.zero_mul, rz_zero, rz_zero, Int.zero_mul])
def k4 (a : Int32) (hf : 0 ≤ f.toInt ∧ f.toInt ≤ 65535) (hl : 0 ≤ l.toInt ∧ l.toInt ≤ 65535) (hp : 0 < f.toInt + l.toInt) := sc_val (f := f) (dv_i2d a) (dv_i2d l) (abs31 a) hf.1 (by omega) hl.1 (by omega) hp
theorem dv_2a (a : Int32) : Dv (Jvm.FP.dmul (4611686018427387904 : UInt64) (Jvm.FP.i2d a)) (2 * a.toInt * (one64 : Int)) := by
  have h := int32_abs a
  have q := dv_mulX dv2 (dv_i2d a) (by rw [← Int.mul_assoc, Int.natAbs_mul, Int.natAbs_natCast]; exact Nat.mul_le_mul_right _ (by omega)) (by rw [← Int.mul_assoc]; exact rep_U (by omega))
  rw [← Int.mul_assoc] at q
  exact q
theorem dv_3a (a : Int32) : Dv (Jvm.FP.dmul (4613937818241073152 : UInt64) (Jvm.FP.i2d a)) (3 * a.toInt * (one64 : Int)) := by
  have h := int32_abs a
  have q := dv_mulX dv3 (dv_i2d a) (by rw [← Int.mul_assoc, Int.natAbs_mul, Int.natAbs_natCast]; exact Nat.mul_le_mul_right _ (by omega)) (by rw [← Int.mul_assoc]; exact rep_U (by omega))
  rw [← Int.mul_assoc] at q
  exact q
theorem dv_na (a : Int32) : Dv (Jvm.FP.dneg (Jvm.FP.i2d a)) (-a.toInt * (one64 : Int)) := by
  have q := dv_neg (dv_i2d a)
  rw [← Int.neg_mul] at q
  exact q
def k5 (a : Int32) (hf : 0 ≤ f.toInt ∧ f.toInt ≤ 65535) (hl : 0 ≤ l.toInt ∧ l.toInt ≤ 65535) (hp : 0 < f.toInt + l.toInt) := sc_val (f := f) (dv_2a a) (dv_i2d l) (by have := int32_abs a; omega) hf.1 (by omega) hl.1 (by omega) hp
def k6 (a : Int32) (hf : 0 ≤ f.toInt ∧ f.toInt ≤ 65535) (hl : 0 ≤ l.toInt ∧ l.toInt ≤ 65535) (hp : 0 < f.toInt + l.toInt) := sc_val (f := f) (dv_na a) (dv_i2d l) (by have := int32_abs a; omega) hf.1 (by omega) hl.1 (by omega) hp
theorem two_f (hf : 0 ≤ f.toInt ∧ f.toInt ≤ 65535) : ((2 : Int32) * f).toInt = 2 * f.toInt := by
  rw [Int32.toInt_mul, show (2 : Int32).toInt = 2 from rfl]
  exact Int.bmod_eq_of_le (by omega) (by omega)
def k7 (a : Int32) (hf : 0 ≤ f.toInt ∧ f.toInt ≤ 65535) (hl : 0 ≤ l.toInt ∧ l.toInt ≤ 65535) (hp : 0 < f.toInt + l.toInt) := sc_val (f := (2 : Int32) * f) (dv_i2d a) (dv_2a l) (abs31 a) (by rw [two_f hf]; omega) (by rw [two_f hf]; omega) (by omega) (by omega) (by rw [two_f hf]; omega)
theorem rz_absge {N : Int} {D K : Nat} (hD : 0 < D) (hK : Rep (K : Int)) (h : K * D ≤ N.natAbs) : K ≤ (rz N D).natAbs := by
  by_cases q : 0 ≤ N
  · have := rz_lo (N := N) hK hD (by rw [← Int.natCast_mul]; omega)
    omega
  · have := rz_up (N := N) hK.neg hD (by rw [Int.neg_mul, ← Int.natCast_mul]; omega)
    omega
theorem q_lo {x : Int} (hx : x ≠ 0) : one64 ≤ (rz (x * c22) 1).natAbs := rz_absge (by decide) (by have := rep_K (K := 1) (by decide); rw [Nat.one_mul] at this; exact this) (by
  rw [Nat.mul_one, Int.natAbs_mul]
  have h1 : 1 ≤ x.natAbs := by omega
  have h2 : one64 ≤ c22.natAbs := by have := c22_lo; omega
  have := Nat.mul_le_mul h1 h2
  rw [Nat.one_mul] at this
  exact this)
theorem big : 2 ^ 1000 * 2 ^ 20 ≤ one64 := by decide +kernel
theorem s_lo {Q : Int} {n : Nat} (hQ : one64 ≤ Q.natAbs) (h0 : 0 < n) (hn : n ≤ 2 ^ 20) : 2 ^ 1000 ≤ (rz Q n).natAbs := rz_absge h0 (by
    have := rep_pow (k := 1) (j := 1000) (by decide) (by decide) (by decide)
    rw [Int.one_mul] at this; exact this) (Nat.le_trans (Nat.mul_le_mul_left _ hn) (Nat.le_trans big hQ))
theorem big52 : 2 ^ 52 * 2 ^ 20 ≤ one64 := by decide +kernel
theorem le99 {x : Nat} {n : Nat} (h : x ≤ 2 ^ 52 * one64) (hn : 0 < n) : x ≤ 2 ^ 99 * one64 * n := Nat.le_trans h (Nat.le_trans (Nat.mul_le_mul_right one64 (show 2 ^ 52 ≤ 2 ^ 99 by decide)) (Nat.le_mul_of_pos_right _ hn))
theorem q_two {x : Int} (h : x.natAbs ≤ 2 ^ 50) : rz (2 * (x * c22)) 1 = 2 * rz (x * c22) 1 := rz_two (by decide) (by
    by_cases q : x = 0
    · left; rw [q, Int.zero_mul]
    · right
      rw [Nat.mul_one, Int.natAbs_mul]
      have h1 : 1 ≤ x.natAbs := by omega
      have h2 : one64 ≤ c22.natAbs := by have := c22_lo; omega
      have h3 := Nat.mul_le_mul h1 h2
      rw [Nat.one_mul] at h3
      have := big52
      omega) (le99 (b_c22 h) (by decide))
theorem sv_two {x : Int} {n : Nat} (h : x.natAbs ≤ 2 ^ 50) (h0 : 0 < n) (hn : n ≤ 2 ^ 20) : rz (2 * rz (x * c22) 1) n = 2 * rz (rz (x * c22) 1) n := rz_two h0 (by
    by_cases q : x = 0
    · left; rw [q, Int.zero_mul, rz_zero]
    · right
      exact Nat.le_trans (Nat.mul_le_mul_left _ hn) (Nat.le_trans big52 (q_lo q))) (le99 (b_q h) h0)
theorem sv_abs {x : Int} {n : Nat} (h : x.natAbs ≤ 2 ^ 50) (h0 : 0 < n) : (rz (rz (x * c22) 1) n).natAbs ≤ 2 ^ 52 * one64 := rz_abs h0 (rep_K (K := 2 ^ 52) (by decide)) (Nat.le_trans (b_q h) (Nat.le_mul_of_pos_right _ h0))
theorem sv_two1 {x : Int} {n : Nat} (h : x.natAbs ≤ 2 ^ 50) (h0 : 0 < n) (hn : n ≤ 2 ^ 20) : rz (2 * rz (rz (x * c22) 1) n) 1 = 2 * rz (rz (x * c22) 1) n := by
  have e := rz_exact (rz_rep (rz (x * c22) 1) h0) (D := 1) (by decide)
  rw [show rz (rz (x * c22) 1) n * ((1 : Nat) : Int) = rz (rz (x * c22) 1) n from Int.mul_one _] at e
  rw [rz_two (by decide) ?_ (le99 (sv_abs h h0) (by decide)), e]
  by_cases q : x = 0
  · left; rw [q, Int.zero_mul, rz_zero, rz_zero]
  · right
    rw [Nat.mul_one]
    exact Nat.le_trans (show 2 ^ 52 ≤ 2 ^ 1000 from Nat.pow_le_pow_right (by decide) (by decide)) (s_lo (q_lo q) h0 hn)
theorem b50 (a : Int32) (hf : 0 ≤ f.toInt ∧ f.toInt ≤ 65535) : (a.toInt * f.toInt).natAbs ≤ 2 ^ 50 := by
  rw [Int.natAbs_mul]
  exact Nat.le_trans (Nat.mul_le_mul (int32_abs a) (show f.toInt.natAbs ≤ 2 ^ 16 by omega)) (by decide)
theorem e5 (a : Int32) (hf : 0 ≤ f.toInt ∧ f.toInt ≤ 65535) (hl : 0 ≤ l.toInt ∧ l.toInt ≤ 65535) (hp : 0 < f.toInt + l.toInt) :
    Jvm.Free.Fl.NoNaN64 (Jvm.FP.dmul (4611686018427387904 : UInt64) (scf (Jvm.FP.i2d a) f (Jvm.FP.i2d l))) ∧ Jvm.FP.dcmp (scf (Jvm.FP.dmul (4611686018427387904 : UInt64) (Jvm.FP.i2d a)) f (Jvm.FP.i2d l)) (Jvm.FP.dmul (4611686018427387904 : UInt64) (scf (Jvm.FP.i2d a) f (Jvm.FP.i2d l))) = some .eq := by
  have h := b50 a hf
  have h0 : 0 < (f.toInt + l.toInt).natAbs := by omega
  have hn : (f.toInt + l.toInt).natAbs ≤ 2 ^ 20 := by omega
  have d := dv_mulU dv2 (k4 a hf hl hp).2.2.2.2 (by
    rw [Int.natAbs_mul]
    have := Nat.mul_le_mul_left (Int.natAbs 2) (sv_abs h h0)
    refine Nat.le_trans this ?_
    rw [← Nat.mul_assoc]
    exact Nat.mul_le_mul_right _ (by decide))
  refine ⟨d.nn, dv_eq (k5 a hf hl hp).2.2.2.2 d ?_⟩
  rw [Int.mul_assoc 2, Int.mul_assoc 2, q_two h, sv_two h h0 hn, sv_two1 h h0 hn]
theorem e6 (a : Int32) (hf : 0 ≤ f.toInt ∧ f.toInt ≤ 65535) (hl : 0 ≤ l.toInt ∧ l.toInt ≤ 65535) (hp : 0 < f.toInt + l.toInt) :
    Jvm.FP.dcmp (scf (Jvm.FP.dneg (Jvm.FP.i2d a)) f (Jvm.FP.i2d l)) (Jvm.FP.dneg (scf (Jvm.FP.i2d a) f (Jvm.FP.i2d l))) = some .eq :=
  dv_eq (k6 a hf hl hp).2.2.2.2 (dv_neg (k4 a hf hl hp).2.2.2.2) (by rw [Int.neg_mul, Int.neg_mul, rz_neg, rz_neg])
theorem e7 (a : Int32) (hf : 0 ≤ f.toInt ∧ f.toInt ≤ 65535) (hl : 0 ≤ l.toInt ∧ l.toInt ≤ 65535) (hp : 0 < f.toInt + l.toInt) :
    Jvm.FP.dcmp (scf (Jvm.FP.i2d a) ((2 : Int32) * f) (Jvm.FP.dmul (4611686018427387904 : UInt64) (Jvm.FP.i2d l))) (scf (Jvm.FP.i2d a) f (Jvm.FP.i2d l)) = some .eq :=
  dv_eq (k7 a hf hl hp).2.2.2.2 (k4 a hf hl hp).2.2.2.2 (by
    have h := b50 a hf
    rw [two_f hf, show a.toInt * (2 * f.toInt) * c22 = 2 * (a.toInt * f.toInt * c22) by rw [Int.mul_left_comm, Int.mul_assoc 2], q_two h]
    refine rz_congr (by omega) (by omega) ?_
    rw [show ((2 * f.toInt + 2 * l.toInt).natAbs : Int) = 2 * ((f.toInt + l.toInt).natAbs : Int) by omega, Int.mul_assoc, Int.mul_left_comm])
theorem e8 (a : Int32) (ha : 0 < a.toInt) (hf : 0 ≤ f.toInt ∧ f.toInt ≤ 65535) (hf1 : 0 < f.toInt) (hl : 0 ≤ l.toInt ∧ l.toInt ≤ 65535) (hp : 0 < f.toInt + l.toInt) :
    Jvm.FP.dcmp (scf (Jvm.FP.i2d a) f (Jvm.FP.i2d l)) Jvm.FP.dconst0 = some .gt ∧ Jvm.FP.dcmp (scf (Jvm.FP.i2d a) f (Jvm.FP.i2d l)) (Jvm.FP.dmul (4613937818241073152 : UInt64) (Jvm.FP.i2d a)) = some .lt := by
  have h := b50 a hf
  have hx : 0 < a.toInt * f.toInt := Int.mul_pos ha hf1
  have h0 : 0 < (f.toInt + l.toInt).natAbs := by omega
  have hn : (f.toInt + l.toInt).natAbs ≤ 2 ^ 20 := by omega
  have hc := c22_lo
  have hc2 := c22_hi
  have one := one64_pos
  have p1 : 0 ≤ a.toInt * f.toInt * c22 := Int.mul_nonneg (Int.le_of_lt hx) (by omega)
  have p2 : 0 ≤ rz (a.toInt * f.toInt * c22) 1 := rz_lo rep_0 (by decide) (by omega)
  have p3 : 0 ≤ rz (rz (a.toInt * f.toInt * c22) 1) (f.toInt + l.toInt).natAbs := rz_lo rep_0 h0 (by omega)
  have p4 := s_lo (q_lo (x := a.toInt * f.toInt) (by omega)) h0 hn
  have p5 : 0 < 2 ^ 1000 := Nat.two_pow_pos 1000
  refine ⟨dv_gt (k4 a hf hl hp).2.2.2.2 dv0 (by rw [Int.zero_mul]; omega), dv_lt (k4 a hf hl hp).2.2.2.2 (dv_3a a) ?_⟩
  have t1 := q_two h
  have t2 := sv_two h h0 hn
  have u1 : 2 * (a.toInt * f.toInt * c22) ≤ 5 * (a.toInt * f.toInt) * (one64 : Int) * ((1 : Nat) : Int) := by
    have := Int.mul_le_mul_of_nonneg_left hc2 (Int.le_of_lt hx)
    rw [Int.mul_left_comm, ← Int.mul_assoc] at this
    rw [show 5 * (a.toInt * f.toInt) * (one64 : Int) * ((1 : Nat) : Int) = a.toInt * f.toInt * (5 * (one64 : Int)) by rw [show ((1 : Nat) : Int) = 1 from rfl, Int.mul_one, Int.mul_comm 5, Int.mul_assoc]]
    rw [Int.mul_left_comm]
    exact Int.mul_le_mul_of_nonneg_left hc2 (Int.le_of_lt hx)
  have v1 := rz_up (rep_U (k := 5 * (a.toInt * f.toInt)) (by omega)) (by decide) u1
  rw [t1] at v1
  have u2 : 2 * rz (a.toInt * f.toInt * c22) 1 ≤ 5 * a.toInt * (one64 : Int) * ((f.toInt + l.toInt).natAbs : Int) := by
    refine Int.le_trans v1 ?_
    rw [show ((f.toInt + l.toInt).natAbs : Int) = f.toInt + l.toInt by omega, ← Int.mul_assoc, Int.mul_right_comm]
    refine Int.mul_le_mul_of_nonneg_left (by omega) ?_
    exact Int.mul_nonneg (by omega) (by omega)
  have v2 := rz_up (rep_U (k := 5 * a.toInt) (by have := int32_abs a; omega)) h0 u2
  rw [t2] at v2
  have w : 5 * a.toInt * (one64 : Int) < 2 * (3 * a.toInt * (one64 : Int)) := by
    have z := Int.mul_pos ha (show (0 : Int) < (one64 : Int) by omega)
    rw [Int.mul_assoc, Int.mul_assoc]
    omega
  omega
def k8 {g : Int32} (a : Int32) (hf : 0 ≤ f.toInt ∧ f.toInt ≤ 65535) (hg : 0 ≤ g.toInt ∧ g.toInt ≤ 131070) (hp : 0 < f.toInt + g.toInt) := sc_val (f := f) (dv_i2d a) (dv_i2d g) (abs31 a) hf.1 (by omega) hg.1 (by omega) hp
theorem e9 {g : Int32} (a : Int32) (ha : 0 < a.toInt) (hf : 0 ≤ f.toInt ∧ f.toInt ≤ 65535) (hl : 0 ≤ l.toInt ∧ l.toInt ≤ 65535) (hp : 0 < f.toInt + l.toInt) (hg : 0 ≤ g.toInt ∧ g.toInt ≤ 131070) (hgl : l.toInt ≤ g.toInt) :
    Jvm.FP.dcmp (scf (Jvm.FP.i2d a) f (Jvm.FP.i2d g)) (scf (Jvm.FP.i2d a) f (Jvm.FP.i2d l)) = some .lt ∨ Jvm.FP.dcmp (scf (Jvm.FP.i2d a) f (Jvm.FP.i2d g)) (scf (Jvm.FP.i2d a) f (Jvm.FP.i2d l)) = some .eq := by
  refine dv_le (k8 a hf hg (by omega)).2.2.2.2 (k4 a hf hl hp).2.2.2.2 ?_
  have h := b50 a hf
  have p1 : 0 ≤ a.toInt * f.toInt * c22 := Int.mul_nonneg (Int.mul_nonneg (Int.le_of_lt ha) hf.1) (by have := c22_lo; omega)
  have p2 : 0 ≤ rz (a.toInt * f.toInt * c22) 1 := rz_lo rep_0 (by decide) (by omega)
  have b := b_q h
  have le : ∀ {n : Nat}, 0 < n → (rz (a.toInt * f.toInt * c22) 1).natAbs ≤ 2 ^ 100 * one64 * n := fun hn => Nat.le_trans b (Nat.le_trans (Nat.mul_le_mul_right one64 (show 2 ^ 52 ≤ 2 ^ 100 by decide)) (Nat.le_mul_of_pos_right _ hn))
  exact rz_mono (by omega) (by omega) (Int.mul_le_mul_of_nonneg_left (by omega) p2) (le (by omega)) (le (by omega))
theorem e10 (a : Int32) (hf : 0 ≤ f.toInt ∧ f.toInt ≤ 65535) (hl : 0 ≤ l.toInt ∧ l.toInt ≤ 65535) (hp : 0 < f.toInt + l.toInt) (h : a = 0 ∨ f = 0) : Jvm.FP.dcmp (scf (Jvm.FP.i2d a) f (Jvm.FP.i2d l)) Jvm.FP.dconst0 = some .eq :=
  dv_eq (k4 a hf hl hp).2.2.2.2 dv0 (by
    have z : a.toInt * f.toInt = 0 := by
      rcases h with rfl | rfl
      · exact Int.zero_mul _
      · exact Int.mul_zero _
    rw [z, Int.zero_mul, rz_zero, rz_zero, Int.zero_mul])
end
end Fl
end Jvm.Pilot.@@N@@
namespace Jvm.Pilot.@@N@@
open Jvm Jvm.ClassFile Sem Op Lib Jvm.Free Jvm.Stand Jvm.LawKit Jvm.RoadKit Bundle Jvm.Pilot.@@N@@.Jvm.D
/-! my own words: Go (the run comes from T to a state with P), a step, a return -/
def Go (tb : Tables) (e : Env) (below : List Frame) (P : State → Prop) (T : State) : Prop := ∃ u, P u ∧ ∀ t, Steps tb e below u t → Steps tb e below T t
theorem Go.by' {tb : Tables} {e : Env} {below : List Frame} {P : State → Prop} {T T' : State} (h : ∀ t, Steps tb e below T' t → Steps tb e below T t) (k : Go tb e below P T') : Go tb e below P T :=
  k.elim fun u q => ⟨u, q.1, fun t z => h t (q.2 t z)⟩
theorem Go.cast {tb : Tables} {e : Env} {below : List Frame} {P : State → Prop} {T : State} {g g' : JFrame} (q : g = g') (k : Go tb e below P (T.setTop g')) : Go tb e below P (T.setTop g) := q ▸ k
theorem Go.castF {tb : Tables} {e : Env} {below : List Frame} {P : State → Prop} {T : State} {α : Type} (F : α → JFrame) {a b : α} (q : a = b) (k : Go tb e below P (T.setTop (F b))) : Go tb e below P (T.setTop (F a)) := q ▸ k
def Fin' (s : State) (below : List Frame) (ce sl : Nat) (Q : Option Value → Heap → List Loc → Prop) (u : State) : Prop := u.status = .running ∧ ∃ o, Ended u below o ∧ ∃ v L, o = .returned v ∧ Q v u.heap L ∧ FrameEnd s o u L ce sl
theorem Go.body {tb : Tables} {e : Env} {below : List Frame} {s : State} {ce sl : Nat} {Q : Option Value → Heap → List Loc → Prop} {T : State} (h : Go tb e below (Fin' s below ce sl Q) T) :
    ∃ s₂ o, Steps tb e below T s₂ ∧ s₂.status = .running ∧ Ended s₂ below o ∧ ∃ v L, o = .returned v ∧ Q v s₂.heap L ∧ FrameEnd s o s₂ L ce sl := by
  obtain ⟨u, ⟨h1, o, h2, h3⟩, h4⟩ := h
  exact ⟨u, o, h4 u (Steps.refl _), h1, h2, h3⟩
section OwnStand
variable {p : Program} {l : Launch} {e : Env} {R : Room} {s : State} {m : MethodId} {args : Array Value} {below : List Frame} {meth : Method} {c : Code} {T : State} {locs : List Loc} {cells slots : Nat}
def Like (X : Stand p l e R s m args below meth c T locs cells slots) (T' : State) : Prop := Stand p l e R s m args below meth c T' locs cells slots
theorem Go.out (X : Stand p l e R s m args below meth c T locs cells slots) {v : Option Value} (hv : meth.sig.returnType = none → v = none) (hlocks : meth.locks = false) {g : JFrame} {ce sl : Nat} {Q : Option Value → Heap → List Loc → Prop}
    (st : ∀ fs : List Frame, (∀ (f : JFrame) (acts : List Action), f.method = m → f.locked = none → f.entered = [] → (doReturn e (T.setTop f) acts v).1 = T.setFrames fs) → Steps p.tables e below (T.setTop g) (T.setFrames fs))
    (hc : cells ≤ ce) (hs : slots ≤ sl) (q : Q v T.heap locs) : Go p.tables e below (Fin' s below ce sl Q) (T.setTop g) := by
  obtain ⟨fs, hr, hrun, hended, hW, hsame⟩ := X.leave (v := v) hv hlocks
  exact ⟨T.setFrames fs, ⟨hrun, _, hended, v, locs, rfl, q, ⟨_, rfl⟩, hW, hsame.mono hc hs⟩, fun t k => (st fs hr).trans k⟩
theorem Go.retI' (X : Stand p l e R s m args below meth c T locs cells slots) (hx : p.tables.exec = Jvm.exec) {pc : Nat} {Ls : Array Slot} {z : Int32} {rest : List Value} {t : FieldType} (hret : meth.sig.returnType = some t) (hlocks : meth.locks = false)
    (ht : t = .int ∨ t = .boolean ∨ t = .byte ∨ t = .char ∨ t = .short) (hn : narrow t (.int z) = .int z) (hd : decode c.code pc = .ok (.ireturn, 1)) {ce sl : Nat} {Q : Option Value → Heap → List Loc → Prop} (hc : cells ≤ ce) (hs : slots ≤ sl) (q : Q (some (.int z)) T.heap locs) :
    Go p.tables e below (Fin' s below ce sl Q) (T.setTop (mkF m pc Ls (.int z :: rest))) :=
  Go.out X (fun h => by rw [hret] at h; cases h) hlocks (fun _ hl => retOut X hx hret hn (Or.inl ⟨rfl, ht, z, rfl⟩) hd hl) hc hs q
theorem Go.retA' (X : Stand p l e R s m args below meth c T locs cells slots) (hx : p.tables.exec = Jvm.exec) {pc : Nat} {Ls : Array Slot} {w : Value} {rest : List Value} {t : FieldType} (hret : meth.sig.returnType = some t) (hlocks : meth.locks = false)
    (ht : t.isReference = true) (hw : w.isRef = true) (hd : decode c.code pc = .ok (.areturn, 1)) {ce sl : Nat} {Q : Option Value → Heap → List Loc → Prop} (hc : cells ≤ ce) (hs : slots ≤ sl) (q : Q (some w) T.heap locs) :
    Go p.tables e below (Fin' s below ce sl Q) (T.setTop (mkF m pc Ls (w :: rest))) :=
  Go.out X (fun h => by rw [hret] at h; cases h) hlocks (fun _ hl => retOut X hx hret (by cases t <;> first | (cases ht; done) | (rcases ref_cases hw with rfl | ⟨z, rfl⟩ <;> rfl)) (Or.inr (Or.inr (Or.inr (Or.inr ⟨rfl, ht, hw⟩)))) hd hl) hc hs q
theorem Go.retD' (X : Stand p l e R s m args below meth c T locs cells slots) (hx : p.tables.exec = Jvm.exec) {pc : Nat} {Ls : Array Slot} {z : UInt64} {rest : List Value} (hret : meth.sig.returnType = some .double) (hlocks : meth.locks = false)
    (hd : decode c.code pc = .ok (.dreturn, 1)) {ce sl : Nat} {Q : Option Value → Heap → List Loc → Prop} (hc : cells ≤ ce) (hs : slots ≤ sl) (q : Q (some (.double z)) T.heap locs) :
    Go p.tables e below (Fin' s below ce sl Q) (T.setTop (mkF m pc Ls (.double z :: rest))) :=
  Go.out X (fun h => by rw [hret] at h; cases h) hlocks (fun _ hl => retOut X hx hret rfl (Or.inr (Or.inr (Or.inl ⟨rfl, rfl, z, rfl⟩))) hd hl) hc hs q
theorem Go.retV' (X : Stand p l e R s m args below meth c T locs cells slots) (hx : p.tables.exec = Jvm.exec) {pc : Nat} {Ls : Array Slot} (hret : meth.sig.returnType = none) (hlocks : meth.locks = false)
    (hd : decode c.code pc = .ok (.return_, 1)) {ce sl : Nat} {Q : Option Value → Heap → List Loc → Prop} (hc : cells ≤ ce) (hs : slots ≤ sl) (q : Q none T.heap locs) :
    Go p.tables e below (Fin' s below ce sl Q) (T.setTop (mkF m pc Ls [])) :=
  Go.out X (fun _ => rfl) hlocks (fun _ hl => X.returnOut hx hret hd hl) hc hs q
theorem own_nil (X : Stand p l e R s m args below meth c T (locs ++ []) cells slots) : Stand p l e R s m args below meth c T locs cells slots := by rw [List.append_nil] at X; exact X
theorem own_pack {k : Nat} (X : Stand p l e R s m args below meth c T locs cells slots) (N : Fr k locs) : ∃ ll, Stand p l e R s m args below meth c T ll cells slots ∧ Fr k ll := ⟨_, X, N⟩
end OwnStand
abbrev vi (x : Int32) : Slot := .val (.int x)
abbrev vr (a : Addr) : Slot := .val (.ref a)
theorem own_nb {z : Int32} (h : z = 0 ∨ z = 1) : narrow .boolean (.int z) = .int z := by rcases h with rfl | rfl <;> rfl
theorem own_fb {z : Int32} (h : z = 0 ∨ z = 1) : fits .boolean (.int z) = true := by rcases h with rfl | rfl <;> rfl
theorem own_bb {x : Int32} : nar .byte (x.toInt8.toInt32) = x.toInt8.toInt32 := by show x.toInt8.toInt32.toInt8.toInt32 = x.toInt8.toInt32; simp
theorem own_nm (x : Int32) : nar .char (x &&& (255 : Int32)) = (x &&& (255 : Int32)) := i2c_mask x
theorem own_i2c {x : Int32} (h0 : ¬ x < (0 : Int32)) (h1 : ¬ (255 : Int32) < x) : x.toUInt32.toUInt16.toUInt32.toInt32 = x := by
  have a := c_i2c x
  have z0 : (0 : Int32).toInt = 0 := rfl
  have z1 : (255 : Int32).toInt = 255 := rfl
  rw [Int32.lt_iff_toInt_lt] at h0 h1
  rw [← Int32.toInt_inj]; omega
theorem own_nc {x : Int32} (h0 : ¬ x < (0 : Int32)) (h1 : ¬ (255 : Int32) < x) : nar .char x = x := own_i2c h0 h1
theorem own_b8 {x y : Int32} (h0 : ¬ x < (0 : Int32)) (h1 : ¬ (255 : Int32) < x) (h2 : ¬ y < (0 : Int32)) (h3 : ¬ (255 : Int32) < y) : (x.toInt8.toInt32) = (y.toInt8.toInt32) ↔ x = y := by
  have a := c_i2b x
  have b := c_i2b y
  have z0 : (0 : Int32).toInt = 0 := rfl
  have z1 : (255 : Int32).toInt = 255 := rfl
  rw [Int32.lt_iff_toInt_lt] at h0 h1 h2 h3
  rw [← Int32.toInt_inj, ← Int32.toInt_inj]; omega
theorem own_m (x : Int32) : ¬ (x &&& (255 : Int32)) < (0 : Int32) ∧ ¬ (255 : Int32) < (x &&& (255 : Int32)) := by
  have h := c_mask x 255 8 (by decide) (by decide)
  have z0 : (0 : Int32).toInt = 0 := rfl
  have z1 : (255 : Int32).toInt = 255 := rfl
  rw [Int32.lt_iff_toInt_lt, Int32.lt_iff_toInt_lt]; omega
theorem own_le {Z : State} {n0 : Nat} {h : Heap} (X : Old Z n0 h) : n0 ≤ h.size := X.1 ▸ X.2.1
theorem own_f (x : Int32) : 0 ≤ (x &&& (65535 : Int32)).toInt ∧ (x &&& (65535 : Int32)).toInt ≤ 65535 := by
  have h := c_mask x 65535 16 (by decide) (by decide)
  omega
theorem own_g {l m : Int32} (hl : 0 ≤ l.toInt ∧ l.toInt ≤ 65535) (hm : 0 ≤ m.toInt ∧ m.toInt ≤ 65535) : (0 ≤ (l + m).toInt ∧ (l + m).toInt ≤ 131070) ∧ l.toInt ≤ (l + m).toInt := by
  have e : (l + m).toInt = l.toInt + m.toInt := by rw [Int32.toInt_add]; exact Int.bmod_eq_of_le (by omega) (by omega)
  omega
theorem own_p {f l : Int32} (hf : 0 ≤ f.toInt ∧ f.toInt ≤ 65535) (hl : 0 ≤ l.toInt ∧ l.toInt ≤ 65535) (h : ¬ (f + l) = (0 : Int32)) : 0 < f.toInt + l.toInt := by
  have e : (f + l).toInt = f.toInt + l.toInt := by rw [Int32.toInt_add]; exact Int.bmod_eq_of_le (by omega) (by omega)
  refine Int.lt_of_not_ge fun q => h ?_
  rw [← Int32.toInt_inj, e]
  have z : (0 : Int32).toInt = 0 := rfl
  omega
theorem own_lt {a : Int32} (h : (0 : Int32) < a) : 0 < a.toInt := by
  rw [Int32.lt_iff_toInt_lt] at h
  exact h
theorem d1_0 : decode prog_28_method_1_code 0 = .ok (.aload_n 0, 1) := by decide +kernel
theorem d1_1 : decode prog_28_method_1_code 1 = .ok (.invokespecial 1, 3) := by decide +kernel
theorem d1_4 : decode prog_28_method_1_code 4 = .ok (.aload_n 0, 1) := by decide +kernel
theorem d1_5 : decode prog_28_method_1_code 5 = .ok (.iload_n 1, 1) := by decide +kernel
theorem d1_6 : decode prog_28_method_1_code 6 = .ok (.putfield 7, 3) := by decide +kernel
theorem d1_9 : decode prog_28_method_1_code 9 = .ok (.aload_n 0, 1) := by decide +kernel
theorem d1_10 : decode prog_28_method_1_code 10 = .ok (.lload_n 2, 1) := by decide +kernel
theorem d1_11 : decode prog_28_method_1_code 11 = .ok (.l2d, 1) := by decide +kernel
theorem d1_12 : decode prog_28_method_1_code 12 = .ok (.iload_n 1, 1) := by decide +kernel
theorem d1_13 : decode prog_28_method_1_code 13 = .ok (.i2d, 1) := by decide +kernel
theorem d1_14 : decode prog_28_method_1_code 14 = .ok (.ddiv, 1) := by decide +kernel
theorem d1_15 : decode prog_28_method_1_code 15 = .ok (.putfield 13, 3) := by decide +kernel
theorem d1_18 : decode prog_28_method_1_code 18 = .ok (.return_, 1) := by decide +kernel
theorem pn_1 : plainName "com/example/kull/kull/core/search/Bm25" = true := by first | (simp [plainName, overriddenIn]; done) | decide +kernel
set_option maxHeartbeats 4000000 in
theorem ef_rmBI (m : MethodId) {so : Addr} : entryFrame m #[(.ref so), (.int (1 : Int32)), (.long (1 : Int64))] 4 = mkF m 0 #[.val (.ref so), .val (.int (1 : Int32)), .val (.long (1 : Int64)), .second] [] := by first | (simp [entryFrame, mkF, argsToLocals, Value.category]; done) | rfl
def QrmBI (Z : State)  (so : Addr) (h0 : Heap) (n0 : Nat) (v : Option Value) (h : Heap) (L : List Loc) : Prop := (v = none) ∧ (Fr n0 L) ∧ (Keep h0 h [so]) ∧ (Exa Z h so "com/example/kull/kull/core/search/Bm25")
set_option maxRecDepth 65536 in
set_option maxHeartbeats 40000000 in
theorem rmBI (l : Launch) (Z : State) (a0 : Array Value) (hw : ∀ d ∈ tables_1, d.before a0 Z = true) (ws : List Jvm.Cond)  (so : Addr) (h0 : Heap) (n0 : Nat) (O0 : Old Z n0 h0) (EX : Exa Z h0 so "com/example/kull/kull/core/search/Bm25") (F1 : Fld Z h0 so "com/example/kull/kull/core/search/Bm25" "documentCount" "I" (.int (0 : Int32))) (F2 : Fld Z h0 so "com/example/kull/kull/core/search/Bm25" "averageLength" "D" (.double (0 : UInt64))) (g_so : n0 ≤ so) :
    MetFree l (⟨"com/example/kull/kull/core/search/Bm25", "<init>", "(IJ)V"⟩ : MethodName) (head1 (Jvm.Cond.code (⟨"com/example/kull/kull/core/search/Bm25", "<init>", "(IJ)V"⟩ : MethodName) prog_28_method_1_code 4 none :: ws) ({ frames := 1, cells := 0, slots := 0, locals := 12 } : Room)) (fun aa' UU' => aa' = #[(.ref so), (.int (1 : Int32)), (.long (1 : Int64))] ∧ Z.Warmed39 UU'.vm ∧ UU'.heap = h0) (fun _ _ _ _ _ => True) (fun _ UU' oo' VV' => ∃ v' L', oo' = .returned v' ∧ QrmBI Z  so h0 n0 v' VV'.heap L' ∧ FrameEnd UU' oo' VV' L' ({ frames := 1, cells := 0, slots := 0, locals := 12 } : Room).cells ({ frames := 1, cells := 0, slots := 0, locals := 12 } : Room).slots) := by
  refine MetFree.of_bodySF (plainFor_of_name pn_1) hisR ?_
  intro p e s m args below meth c s₁ Bd hml0 hP hK
  obtain ⟨rfl, hZ, hh⟩ := hP
  have hx := Bd.exec
  have hby := Bd.bytes
  have hlk := Bd.notSynchronized
  have hml : c.maxLocals = 4 := hml0
  have hown : s.vm.findClass "com/example/kull/kull/core/search/Bm25" = some m.cls := findClass_of_methodNamed Bd.named
  have hnm := (name_of_methodNamed Bd.named Bd.method).1
  have hret := Bd.returns
  have X0 : Stand p l e ({ frames := 1, cells := 0, slots := 0, locals := 12 } : Room) s m #[(.ref so), (.int (1 : Int32)), (.long (1 : Int64))] below meth c s₁ [] 0 0 := Stand.of_body Bd
  have e0 : s₁.heap = h0 := by rw [← hh, Bd.state]; rfl
  have N0 := Fr.nil n0
  have KC0 : Keep h0 h0 [so] := Keep.refl _ _
  refine Go.body ?_
  obtain ⟨Pf, hPf⟩ : ∃ P, P = Fin' s below ({ frames := 1, cells := 0, slots := 0, locals := 12 } : Room).cells ({ frames := 1, cells := 0, slots := 0, locals := 12 } : Room).slots (QrmBI Z  so h0 n0) := ⟨_, rfl⟩
  rw [← hPf]
  refine Go.cast (ef_rmBI m) ?_
  have hw1 := (hw _ (List.mem_of_getElem? (i := 1) rfl))
  have hw6 := (hw _ (List.mem_of_getElem? (i := 6) rfl))
  have hw7 := (hw _ (List.mem_of_getElem? (i := 7) rfl))
  have hw8 := (hw _ (List.mem_of_getElem? (i := 8) rfl))
  have hw9 := (hw _ (List.mem_of_getElem? (i := 9) rfl))
  have hw10 := (hw _ (List.mem_of_getElem? (i := 10) rfl))
  have hw11 := (hw _ (List.mem_of_getElem? (i := 11) rfl))
  have hw12 := (hw _ (List.mem_of_getElem? (i := 12) rfl))
  show Go p.tables e below Pf (s₁.setTop (mkF m 0 #[.val (.ref so), .val (.int (1 : Int32)), .val (.long (1 : Int64)), .second] []))
  refine Go.by' (fun t k => (XS.aloadN X0.here hx rfl (hb hby d1_0) rfl rfl k)) ?_
  show Go p.tables e below Pf (s₁.setTop (mkF m 1 #[.val (.ref so), .val (.int (1 : Int32)), .val (.long (1 : Int64)), .second] [(.ref so)]))
  obtain ⟨T1, X1, e1, st1⟩ := initO X0 hx hZ hown hw6 hw7 hw8 e0 (g := (mkF m 1 #[.val (.ref so), .val (.int (1 : Int32)), .val (.long (1 : Int64)), .second] [(.ref so)])) rfl (by rw [hml]; rfl) rfl (hb hby d1_1) (by decide) (W := 0) (by show 2 * 0 + _ ≤ _; exact Nat.le_of_eq rfl) (by decide)
  refine Go.by' st1 ?_
  show Go p.tables e below Pf (T1.setTop (mkF m 4 #[.val (.ref so), .val (.int (1 : Int32)), .val (.long (1 : Int64)), .second] []))
  refine Go.by' (fun t k => (XS.aloadN X1.here hx rfl (hb hby d1_4) rfl rfl (XS.iloadN X1.here hx rfl (hb hby d1_5) rfl k))) ?_
  show Go p.tables e below Pf (T1.setTop (mkF m 6 #[.val (.ref so), .val (.int (1 : Int32)), .val (.long (1 : Int64)), .second] [(.int (1 : Int32)), (.ref so)]))
  obtain ⟨T2, h2, X2, e2, W2, st2⟩ := putF X1 hx hZ hown (host := "") (Or.inl hw9) Via.refl e1 F1 EX (Or.inr ⟨hw10, rfl, hnm⟩) hw1 (ty := .int) (by decide) rfl rfl (g := (mkF m 6 #[.val (.ref so), .val (.int (1 : Int32)), .val (.long (1 : Int64)), .second] [(.int (1 : Int32)), (.ref so)])) rfl rfl (hb hby d1_6)
  refine Go.by' st2 ?_
  have Fw2 : Fld Z h2 so "com/example/kull/kull/core/search/Bm25" "documentCount" "I" (Value.int (1 : Int32)) := F1.same W2
  have N2 := Fr.snoc X2 N0 g_so
  obtain ⟨lc2, X2, N2⟩ := own_pack X2 N2
  have O2 := O0.wr W2 g_so
  have KC2 : Keep h0 h2 [so] := KC0.wr W2 (Or.inl (List.mem_of_getElem? (i := 0) rfl))
  show Go p.tables e below Pf (T2.setTop (mkF m 9 #[.val (.ref so), .val (.int (1 : Int32)), .val (.long (1 : Int64)), .second] []))
  refine Go.by' (fun t k => (XS.aloadN X2.here hx rfl (hb hby d1_9) rfl rfl (XS.lloadN X2.here hx rfl (hb hby d1_10) rfl (XS.l2dS X2.here hx rfl (hb hby d1_11) rfl rfl (XS.iloadN X2.here hx rfl (hb hby d1_12) rfl (XS.i2dS X2.here hx rfl (hb hby d1_13) rfl rfl (XS.ddivS X2.here hx rfl (hb hby d1_14) rfl (by unfold Jvm.Free.Fl.NoNaN64; decide +kernel) rfl k))))))) ?_
  show Go p.tables e below Pf (T2.setTop (mkF m 15 #[.val (.ref so), .val (.int (1 : Int32)), .val (.long (1 : Int64)), .second] [(.double (FP.ddiv (FP.l2d (1 : Int64)) (FP.i2d (1 : Int32)))), (.ref so)]))
  obtain ⟨T3, h3, X3, e3, W3, st3⟩ := putF X2 hx hZ hown (host := "") (Or.inl hw11) Via.refl e2 (F2.other W2 (Or.inr (slot_ne (Or.inr hw12) (Or.inr hw10) (by decide) (t := .double) (t' := .int) (by decide) (by decide)))) (EX.wr W2) (Or.inr ⟨hw12, rfl, hnm⟩) hw1 (ty := .double) (by decide) rfl rfl (g := (mkF m 15 #[.val (.ref so), .val (.int (1 : Int32)), .val (.long (1 : Int64)), .second] [(.double (FP.ddiv (FP.l2d (1 : Int64)) (FP.i2d (1 : Int32)))), (.ref so)])) rfl rfl (hb hby d1_15)
  refine Go.by' st3 ?_
  have Fw3 : Fld Z h3 so "com/example/kull/kull/core/search/Bm25" "averageLength" "D" (Value.double (FP.ddiv (FP.l2d (1 : Int64)) (FP.i2d (1 : Int32)))) := (F2.other W2 (Or.inr (slot_ne (Or.inr hw12) (Or.inr hw10) (by decide) (t := .double) (t' := .int) (by decide) (by decide)))).same W3
  have N3 := Fr.snoc X3 N2 g_so
  obtain ⟨lc3, X3, N3⟩ := own_pack X3 N3
  have O3 := O2.wr W3 g_so
  have KC3 : Keep h0 h3 [so] := KC2.wr W3 (Or.inl (List.mem_of_getElem? (i := 0) rfl))
  show Go p.tables e below Pf (T3.setTop (mkF m 18 #[.val (.ref so), .val (.int (1 : Int32)), .val (.long (1 : Int64)), .second] []))
  have c4 := ((EX.wr W2).wr W3)
  rw [hPf]
  exact Go.retV' X3 hx hret hlk (hb hby d1_18) (by decide) (by decide) ⟨rfl, N3, (by rw [e3]; exact KC3), (by rw [e3]; exact c4)⟩
theorem d3_0 : decode prog_28_method_4_code 0 = .ok (.dload_n 1, 1) := by decide +kernel
theorem d3_1 : decode prog_28_method_4_code 1 = .ok (.iload_n 3, 1) := by decide +kernel
theorem d3_2 : decode prog_28_method_4_code 2 = .ok (.i2d, 1) := by decide +kernel
theorem d3_3 : decode prog_28_method_4_code 3 = .ok (.dmul, 1) := by decide +kernel
theorem d3_4 : decode prog_28_method_4_code 4 = .ok (.ldc2_w 31, 3) := by decide +kernel
theorem d3_7 : decode prog_28_method_4_code 7 = .ok (.dmul, 1) := by decide +kernel
theorem d3_8 : decode prog_28_method_4_code 8 = .ok (.iload_n 3, 1) := by decide +kernel
theorem d3_9 : decode prog_28_method_4_code 9 = .ok (.i2d, 1) := by decide +kernel
theorem d3_10 : decode prog_28_method_4_code 10 = .ok (.dload 4, 2) := by decide +kernel
theorem d3_12 : decode prog_28_method_4_code 12 = .ok (.dadd, 1) := by decide +kernel
theorem d3_13 : decode prog_28_method_4_code 13 = .ok (.ddiv, 1) := by decide +kernel
theorem d3_14 : decode prog_28_method_4_code 14 = .ok (.dreturn, 1) := by decide +kernel
theorem pn_3 : plainName "com/example/kull/kull/core/search/Bm25" = true := by first | (simp [plainName, overriddenIn]; done) | decide +kernel
set_option maxHeartbeats 4000000 in
theorem ef_rmSc (m : MethodId) {so : Addr} {xi : UInt64} {fx : Int32} {xl : UInt64} : entryFrame m #[(.ref so), (.double xi), (.int fx), (.double xl)] 6 = mkF m 0 #[.val (.ref so), .val (.double xi), .second, .val (.int fx), .val (.double xl), .second] [] := by first | (simp [entryFrame, mkF, argsToLocals, Value.category]; done) | rfl
def QrmSc (Z : State)  (so : Addr) (xi : UInt64) (fx : Int32) (xl : UInt64) (h0 : Heap) (n0 : Nat) (v : Option Value) (h : Heap) (L : List Loc) : Prop := (v = some (.double (Fl.scf xi fx xl))) ∧ (L = []) ∧ (h = h0)
set_option maxRecDepth 65536 in
set_option maxHeartbeats 40000000 in
theorem rmSc (l : Launch) (Z : State) (a0 : Array Value) (hw : ∀ d ∈ tables_1, d.before a0 Z = true) (ws : List Jvm.Cond)  (so : Addr) (xi : UInt64) (fx : Int32) (xl : UInt64) (h0 : Heap) (n0 : Nat) (O0 : Old Z n0 h0) (n1 : Jvm.Free.Fl.NoNaN64 (FP.dmul xi (FP.i2d fx))) (n2 : Jvm.Free.Fl.NoNaN64 (FP.dmul (FP.dmul xi (FP.i2d fx)) (4612136378390124954 : UInt64))) (n3 : Jvm.Free.Fl.NoNaN64 (FP.dadd (FP.i2d fx) xl)) (n4 : Jvm.Free.Fl.NoNaN64 (Fl.scf xi fx xl)) :
    MetFree l (⟨"com/example/kull/kull/core/search/Bm25", "score", "(DID)D"⟩ : MethodName) (head1 (Jvm.Cond.code (⟨"com/example/kull/kull/core/search/Bm25", "score", "(DID)D"⟩ : MethodName) prog_28_method_4_code 6 (some .double) :: ws) ({ frames := 0, cells := 0, slots := 0, locals := 0 } : Room)) (fun aa' UU' => aa' = #[(.ref so), (.double xi), (.int fx), (.double xl)] ∧ Z.Warmed39 UU'.vm ∧ UU'.heap = h0) (fun _ _ _ _ _ => True) (fun _ UU' oo' VV' => ∃ v' L', oo' = .returned v' ∧ QrmSc Z  so xi fx xl h0 n0 v' VV'.heap L' ∧ FrameEnd UU' oo' VV' L' ({ frames := 0, cells := 0, slots := 0, locals := 0 } : Room).cells ({ frames := 0, cells := 0, slots := 0, locals := 0 } : Room).slots) := by
  refine MetFree.of_bodySF (plainFor_of_name pn_3) hisR ?_
  intro p e s m args below meth c s₁ Bd hml0 hP hK
  obtain ⟨rfl, hZ, hh⟩ := hP
  have hx := Bd.exec
  have hby := Bd.bytes
  have hlk := Bd.notSynchronized
  have hml : c.maxLocals = 6 := hml0
  have hown : s.vm.findClass "com/example/kull/kull/core/search/Bm25" = some m.cls := findClass_of_methodNamed Bd.named
  have hnm := (name_of_methodNamed Bd.named Bd.method).1
  have hret := Bd.returns
  have X0 : Stand p l e ({ frames := 0, cells := 0, slots := 0, locals := 0 } : Room) s m #[(.ref so), (.double xi), (.int fx), (.double xl)] below meth c s₁ [] 0 0 := Stand.of_body Bd
  have e0 : s₁.heap = h0 := by rw [← hh, Bd.state]; rfl
  have N0 := Fr.nil n0
  refine Go.body ?_
  obtain ⟨Pf, hPf⟩ : ∃ P, P = Fin' s below ({ frames := 0, cells := 0, slots := 0, locals := 0 } : Room).cells ({ frames := 0, cells := 0, slots := 0, locals := 0 } : Room).slots (QrmSc Z  so xi fx xl h0 n0) := ⟨_, rfl⟩
  rw [← hPf]
  refine Go.cast (ef_rmSc m) ?_
  have hw20 := (hw _ (List.mem_of_getElem? (i := 20) rfl))
  show Go p.tables e below Pf (s₁.setTop (mkF m 0 #[.val (.ref so), .val (.double xi), .second, .val (.int fx), .val (.double xl), .second] []))
  refine Go.by' (fun t k => (XS.dloadN X0.here hx rfl (hb hby d3_0) rfl (XS.iloadN X0.here hx rfl (hb hby d3_1) rfl (XS.i2dS X0.here hx rfl (hb hby d3_2) rfl rfl (XS.dmulS X0.here hx rfl (hb hby d3_3) rfl n1 rfl (X0.ldc2DoubleC hx hown (mvT hZ hw20) (g := (mkF m 4 #[.val (.ref so), .val (.double xi), .second, .val (.int fx), .val (.double xl), .second] [(.double (FP.dmul xi (FP.i2d fx)))])) rfl (hb hby d3_4) t (XS.dmulS X0.here hx rfl (hb hby d3_7) rfl n2 rfl k))))))) ?_
  show Go p.tables e below Pf (s₁.setTop (mkF m 8 #[.val (.ref so), .val (.double xi), .second, .val (.int fx), .val (.double xl), .second] [(.double (FP.dmul (FP.dmul xi (FP.i2d fx)) (4612136378390124954 : UInt64)))]))
  refine Go.by' (fun t k => (XS.iloadN X0.here hx rfl (hb hby d3_8) rfl (XS.i2dS X0.here hx rfl (hb hby d3_9) rfl rfl (XS.dload X0.here hx rfl (hb hby d3_10) rfl (XS.daddS X0.here hx rfl (hb hby d3_12) rfl n3 rfl (XS.ddivS X0.here hx rfl (hb hby d3_13) rfl n4 rfl k)))))) ?_
  show Go p.tables e below Pf (s₁.setTop (mkF m 14 #[.val (.ref so), .val (.double xi), .second, .val (.int fx), .val (.double xl), .second] [(.double (FP.ddiv (FP.dmul (FP.dmul xi (FP.i2d fx)) (4612136378390124954 : UInt64)) (FP.dadd (FP.i2d fx) xl)))]))
  rw [hPf]
  exact Go.retD' X0 hx hret hlk (hb hby d3_14) (by decide) (by decide) ⟨rfl, rfl, e0⟩
theorem pd_0 : parseMethodDescriptor "(IJ)V" = some ⟨[.int, .long], none⟩ := by decide +kernel
theorem pd_1 : parseMethodDescriptor "(DID)D" = some ⟨[.double, .int, .double], some .double⟩ := by decide +kernel
theorem pn_0 : plainName "com/example/kull/kull/core/search/Bm25ScorePinLaw" = true := by first | (simp [plainName, overriddenIn]; done) | decide +kernel
set_option maxHeartbeats 4000000 in
theorem ef_rm0 (m : MethodId) {iA : Int32} {iF : Int32} {iL : Int32} {iM : Int32} : entryFrame m #[(.int iA), (.int iF), (.int iL), (.int iM)] maxLocals = mkF m 0 #[.val (.int iA), .val (.int iF), .val (.int iL), .val (.int iM), .unset, .unset, .unset, .unset, .unset, .unset, .unset, .unset, .unset, .unset, .unset, .unset, .unset] [] := by first | (simp [entryFrame, mkF, argsToLocals, Value.category, maxLocals]; done) | rfl
def Qrm0 (Z : State)  (iA : Int32) (iF : Int32) (iL : Int32) (iM : Int32) (h0 : Heap) (n0 : Nat) (v : Option Value) (h : Heap) (L : List Loc) : Prop := (v = some (.int (1 : Int32))) ∧ (Fr n0 L) ∧ (Keep h0 h [])
set_option maxRecDepth 65536 in
set_option maxHeartbeats 40000000 in
theorem rm0 (l : Launch) (Z : State) (a0 : Array Value) (hw : ∀ d ∈ tables_1, d.before a0 Z = true) (ws : List Jvm.Cond)  (iA : Int32) (iF : Int32) (iL : Int32) (iM : Int32) (h0 : Heap) (n0 : Nat) (O0 : Old Z n0 h0) :
    MetFree l x (head1 (Jvm.Cond.code x code maxLocals ret :: ws) room_1) (fun aa' UU' => aa' = #[(.int iA), (.int iF), (.int iL), (.int iM)] ∧ Z.Warmed39 UU'.vm ∧ UU'.heap = h0) (fun _ _ _ _ _ => True) (fun _ UU' oo' VV' => ∃ v' L', oo' = .returned v' ∧ Qrm0 Z  iA iF iL iM h0 n0 v' VV'.heap L' ∧ FrameEnd UU' oo' VV' L' 1 2) := by
  refine MetFree.of_bodySF (plainFor_of_name pn_0) hisR ?_
  intro p e s m args below meth c s₁ Bd hml0 hP hK
  obtain ⟨rfl, hZ, hh⟩ := hP
  have hx := Bd.exec
  have hby := Bd.bytes
  have hlk := Bd.notSynchronized
  have hml : c.maxLocals = 17 := hml0
  have hown : s.vm.findClass "com/example/kull/kull/core/search/Bm25ScorePinLaw" = some m.cls := findClass_of_methodNamed Bd.named
  have hnm := (name_of_methodNamed Bd.named Bd.method).1
  have hret := Bd.returns
  have X0 : Stand p l e room_1 s m #[(.int iA), (.int iF), (.int iL), (.int iM)] below meth c s₁ [] 0 0 := Stand.of_body Bd
  have e0 : s₁.heap = h0 := by rw [← hh, Bd.state]; rfl
  have N0 := Fr.nil n0
  have KC0 : Keep h0 h0 [] := Keep.refl _ _
  refine Go.body ?_
  obtain ⟨Pf, hPf⟩ : ∃ P, P = Fin' s below 1 2 (Qrm0 Z  iA iF iL iM h0 n0) := ⟨_, rfl⟩
  rw [← hPf]
  refine Go.cast (ef_rm0 m) ?_
  have hw0 := (hw _ (List.mem_of_getElem? (i := 0) rfl))
  have hw1 := (hw _ (List.mem_of_getElem? (i := 1) rfl))
  have hw2 := (hw _ (List.mem_of_getElem? (i := 2) rfl))
  have hw3 := (hw _ (List.mem_of_getElem? (i := 3) rfl))
  have hw4 := (hw _ (List.mem_of_getElem? (i := 4) rfl))
  have hw5 := (hw _ (List.mem_of_getElem? (i := 5) rfl))
  have hw10 := (hw _ (List.mem_of_getElem? (i := 10) rfl))
  have hw12 := (hw _ (List.mem_of_getElem? (i := 12) rfl))
  have hw13 := (hw _ (List.mem_of_getElem? (i := 13) rfl))
  have hw14 := (hw _ (List.mem_of_getElem? (i := 14) rfl))
  have hw15 := (hw _ (List.mem_of_getElem? (i := 15) rfl))
  have hw16 := (hw _ (List.mem_of_getElem? (i := 16) rfl))
  have hw17 := (hw _ (List.mem_of_getElem? (i := 17) rfl))
  have hw18 := (hw _ (List.mem_of_getElem? (i := 18) rfl))
  have hw19 := (hw _ (List.mem_of_getElem? (i := 19) rfl))
  have hw21 := (hw _ (List.mem_of_getElem? (i := 21) rfl))
  have hw22 := (hw _ (List.mem_of_getElem? (i := 22) rfl))
  show Go p.tables e below Pf (s₁.setTop (mkF m 0 #[.val (.int iA), .val (.int iF), .val (.int iL), .val (.int iM), .unset, .unset, .unset, .unset, .unset, .unset, .unset, .unset, .unset, .unset, .unset, .unset, .unset] []))
  obtain ⟨T5, h5, X5, e5, E5, A5, D5, -, st5⟩ := newO X0 hx hZ hown hw0 hw1 hw2 e0 (g := (mkF m 0 #[.val (.int iA), .val (.int iF), .val (.int iL), .val (.int iM), .unset, .unset, .unset, .unset, .unset, .unset, .unset, .unset, .unset, .unset, .unset, .unset, .unset] [])) rfl (hb hby at_0) (by decide) (by decide)
  obtain ⟨b5, g5⟩ : ∃ z, z = h0.size := ⟨_, rfl⟩
  rw [← g5] at A5 D5 st5
  refine Go.by' st5 ?_
  have g_b5 : n0 ≤ b5 := Nat.le_trans (own_le O0) (Nat.le_of_eq g5.symm)
  have sz_b5 : h0.size ≤ b5 := Nat.le_trans KC0.1 (Nat.le_of_eq g5.symm)
  have O5 := O0.ext E5
  have KC5 : Keep h0 h5 [] := KC0.ext E5
  have Fn5_10 : Fld Z h5 b5 "com/example/kull/kull/core/search/Bm25" "documentCount" "I" (Value.int (0 : Int32)) := D5 (Or.inr hw10) (ty := .int) (by decide)
  have Fn5_12 : Fld Z h5 b5 "com/example/kull/kull/core/search/Bm25" "averageLength" "D" (Value.double (0 : UInt64)) := D5 (Or.inr hw12) (ty := .double) (by decide)
  show Go p.tables e below Pf (T5.setTop (mkF m 3 #[.val (.int iA), .val (.int iF), .val (.int iL), .val (.int iM), .unset, .unset, .unset, .unset, .unset, .unset, .unset, .unset, .unset, .unset, .unset, .unset, .unset] [(.ref b5)]))
  refine Go.by' (fun t k => (XS.dup X5.here hx rfl (hb hby at_3) rfl rfl (XS.iconst X5.here hx rfl (hb hby at_4) (XS.lconst X5.here hx rfl (hb hby at_5) k)))) ?_
  show Go p.tables e below Pf (T5.setTop (mkF m 6 #[.val (.int iA), .val (.int iF), .val (.int iL), .val (.int iM), .unset, .unset, .unset, .unset, .unset, .unset, .unset, .unset, .unset, .unset, .unset, .unset, .unset] [(.long (1 : Int64)), (.int (1 : Int32)), (.ref b5), (.ref b5)]))
  obtain ⟨_, _, ⟨T6, L6, k6, n6⟩, -, X6, ⟨Lc6, hQ6, l6, y6, z6⟩, st6⟩ := X5.specialBack hx (y := (⟨"com/example/kull/kull/core/search/Bm25", "<init>", "(IJ)V"⟩ : MethodName)) rfl hown (mvT hZ hw3) (mvT hZ hw4) (mvT hZ hw5) (by decide) (backOf (W := 1) (rmBI l Z a0 hw []  b5 h5 n0 O5 A5 Fn5_10 Fn5_12 g_b5) hZ hw5 hw2 (by decide) (by decide)) (g := (mkF m 6 #[.val (.int iA), .val (.int iF), .val (.int iL), .val (.int iM), .unset, .unset, .unset, .unset, .unset, .unset, .unset, .unset, .unset, .unset, .unset, .unset, .unset] [(.long (1 : Int64)), (.int (1 : Int32)), (.ref b5), (.ref b5)])) rfl (by rw [hml]; rfl) (Steps.refl _) (a := b5) (argsL := [(.int (1 : Int32)), (.long (1 : Int64))]) (rest := [(.ref b5)]) (lenOf pd_0 rfl) rfl (by show 2 * 0 + _ ≤ _; exact Nat.le_of_eq rfl) (hb hby at_6) (fun _ _ => ⟨rfl, e5, (by decide : 1 + 0 ≤ _), (by decide : 2 + 0 ≤ _)⟩)
  dsimp only [Pt.U, Pt.locs, Pt.cells, Pt.slots] at X6 l6 y6 z6 st6 hQ6
  subst l6 y6 z6
  obtain ⟨rfl, N6q, K6, f6_0⟩ := hQ6
  have N6 := Fr.app N0 N6q
  obtain ⟨lc6, X6, N6⟩ := own_pack X6 N6
  refine Go.by' (fun t k => st6.trans k) ?_
  have O6 := O5.keep K6 (allS g_b5 all0)
  have KC6 : Keep h0 T6.heap [] := KC5.trans K6 (allS (Or.inr sz_b5) all0)
  show Go p.tables e below Pf (T6.setTop (mkF m 9 #[.val (.int iA), .val (.int iF), .val (.int iL), .val (.int iM), .unset, .unset, .unset, .unset, .unset, .unset, .unset, .unset, .unset, .unset, .unset, .unset, .unset] [(.ref b5)]))
  refine Go.by' (fun t k => (XS.astore X6.here hx rfl (hb hby at_9) rfl rfl (l' := #[.val (.int iA), .val (.int iF), .val (.int iL), .val (.int iM), .val (.ref b5), .unset, .unset, .unset, .unset, .unset, .unset, .unset, .unset, .unset, .unset, .unset, .unset]) rfl (XS.iloadN X6.here hx rfl (hb hby at_11) rfl (XS.i2dS X6.here hx rfl (hb hby at_12) rfl rfl (XS.dstore X6.here hx rfl (hb hby at_13) rfl (l' := #[.val (.int iA), .val (.int iF), .val (.int iL), .val (.int iM), .val (.ref b5), .val (.double (FP.i2d iA)), .second, .unset, .unset, .unset, .unset, .unset, .unset, .unset, .unset, .unset, .unset]) rfl (XS.iloadN X6.here hx rfl (hb hby at_15) rfl (X6.ldcInt hx hown (mvT hZ hw13) (g := (mkF m 16 #[.val (.int iA), .val (.int iF), .val (.int iL), .val (.int iM), .val (.ref b5), .val (.double (FP.i2d iA)), .second, .unset, .unset, .unset, .unset, .unset, .unset, .unset, .unset, .unset, .unset] [(.int iF)])) rfl (hb hby at_16) t k))))))) ?_
  show Go p.tables e below Pf (T6.setTop (mkF m 18 #[.val (.int iA), .val (.int iF), .val (.int iL), .val (.int iM), .val (.ref b5), .val (.double (FP.i2d iA)), .second, .unset, .unset, .unset, .unset, .unset, .unset, .unset, .unset, .unset, .unset] [(.int (65535 : Int32)), (.int iF)]))
  refine Go.by' (fun t k => (XS.iand X6.here hx rfl (hb hby at_18) rfl (XS.istore X6.here hx rfl (hb hby at_19) rfl (l' := #[.val (.int iA), .val (.int iF), .val (.int iL), .val (.int iM), .val (.ref b5), .val (.double (FP.i2d iA)), .second, .val (.int (iF &&& (65535 : Int32))), .unset, .unset, .unset, .unset, .unset, .unset, .unset, .unset, .unset]) rfl (XS.iloadN X6.here hx rfl (hb hby at_21) rfl (X6.ldcInt hx hown (mvT hZ hw13) (g := (mkF m 22 #[.val (.int iA), .val (.int iF), .val (.int iL), .val (.int iM), .val (.ref b5), .val (.double (FP.i2d iA)), .second, .val (.int (iF &&& (65535 : Int32))), .unset, .unset, .unset, .unset, .unset, .unset, .unset, .unset, .unset] [(.int iL)])) rfl (hb hby at_22) t (XS.iand X6.here hx rfl (hb hby at_24) rfl (XS.istore X6.here hx rfl (hb hby at_25) rfl (l' := #[.val (.int iA), .val (.int iF), .val (.int iL), .val (.int iM), .val (.ref b5), .val (.double (FP.i2d iA)), .second, .val (.int (iF &&& (65535 : Int32))), .val (.int (iL &&& (65535 : Int32))), .unset, .unset, .unset, .unset, .unset, .unset, .unset, .unset]) rfl k))))))) ?_
  show Go p.tables e below Pf (T6.setTop (mkF m 27 #[.val (.int iA), .val (.int iF), .val (.int iL), .val (.int iM), .val (.ref b5), .val (.double (FP.i2d iA)), .second, .val (.int (iF &&& (65535 : Int32))), .val (.int (iL &&& (65535 : Int32))), .unset, .unset, .unset, .unset, .unset, .unset, .unset, .unset] []))
  refine Go.by' (fun t k => (XS.iload X6.here hx rfl (hb hby at_27) rfl (XS.iloadN X6.here hx rfl (hb hby at_29) rfl (X6.ldcInt hx hown (mvT hZ hw13) (g := (mkF m 30 #[.val (.int iA), .val (.int iF), .val (.int iL), .val (.int iM), .val (.ref b5), .val (.double (FP.i2d iA)), .second, .val (.int (iF &&& (65535 : Int32))), .val (.int (iL &&& (65535 : Int32))), .unset, .unset, .unset, .unset, .unset, .unset, .unset, .unset] [(.int iM), (.int (iL &&& (65535 : Int32)))])) rfl (hb hby at_30) t (XS.iand X6.here hx rfl (hb hby at_32) rfl (XS.iadd X6.here hx rfl (hb hby at_33) rfl (XS.istore X6.here hx rfl (hb hby at_34) rfl (l' := #[.val (.int iA), .val (.int iF), .val (.int iL), .val (.int iM), .val (.ref b5), .val (.double (FP.i2d iA)), .second, .val (.int (iF &&& (65535 : Int32))), .val (.int (iL &&& (65535 : Int32))), .val (.int ((iL &&& (65535 : Int32)) + (iM &&& (65535 : Int32)))), .unset, .unset, .unset, .unset, .unset, .unset, .unset]) rfl k))))))) ?_
  show Go p.tables e below Pf (T6.setTop (mkF m 36 #[.val (.int iA), .val (.int iF), .val (.int iL), .val (.int iM), .val (.ref b5), .val (.double (FP.i2d iA)), .second, .val (.int (iF &&& (65535 : Int32))), .val (.int (iL &&& (65535 : Int32))), .val (.int ((iL &&& (65535 : Int32)) + (iM &&& (65535 : Int32)))), .unset, .unset, .unset, .unset, .unset, .unset, .unset] []))
  refine Go.by' (fun t k => (XS.iload X6.here hx rfl (hb hby at_36) rfl (XS.i2dS X6.here hx rfl (hb hby at_38) rfl rfl (XS.dstore X6.here hx rfl (hb hby at_39) rfl (l' := #[.val (.int iA), .val (.int iF), .val (.int iL), .val (.int iM), .val (.ref b5), .val (.double (FP.i2d iA)), .second, .val (.int (iF &&& (65535 : Int32))), .val (.int (iL &&& (65535 : Int32))), .val (.int ((iL &&& (65535 : Int32)) + (iM &&& (65535 : Int32)))), .val (.double (FP.i2d (iL &&& (65535 : Int32)))), .second, .unset, .unset, .unset, .unset, .unset]) rfl (X6.ldc2DoubleC hx hown (mvT hZ hw14) (g := (mkF m 41 #[.val (.int iA), .val (.int iF), .val (.int iL), .val (.int iM), .val (.ref b5), .val (.double (FP.i2d iA)), .second, .val (.int (iF &&& (65535 : Int32))), .val (.int (iL &&& (65535 : Int32))), .val (.int ((iL &&& (65535 : Int32)) + (iM &&& (65535 : Int32)))), .val (.double (FP.i2d (iL &&& (65535 : Int32)))), .second, .unset, .unset, .unset, .unset, .unset] [])) rfl (hb hby at_41) t (XS.dstore X6.here hx rfl (hb hby at_44) rfl (l' := #[.val (.int iA), .val (.int iF), .val (.int iL), .val (.int iM), .val (.ref b5), .val (.double (FP.i2d iA)), .second, .val (.int (iF &&& (65535 : Int32))), .val (.int (iL &&& (65535 : Int32))), .val (.int ((iL &&& (65535 : Int32)) + (iM &&& (65535 : Int32)))), .val (.double (FP.i2d (iL &&& (65535 : Int32)))), .second, .val (.double (4612136378390124954 : UInt64)), .second, .unset, .unset, .unset]) rfl (XS.iconst X6.here hx rfl (hb hby at_46) k))))))) ?_
  show Go p.tables e below Pf (T6.setTop (mkF m 47 #[.val (.int iA), .val (.int iF), .val (.int iL), .val (.int iM), .val (.ref b5), .val (.double (FP.i2d iA)), .second, .val (.int (iF &&& (65535 : Int32))), .val (.int (iL &&& (65535 : Int32))), .val (.int ((iL &&& (65535 : Int32)) + (iM &&& (65535 : Int32)))), .val (.double (FP.i2d (iL &&& (65535 : Int32)))), .second, .val (.double (4612136378390124954 : UInt64)), .second, .unset, .unset, .unset] [(.int (1 : Int32))]))
  refine Go.by' (fun t k => (XS.istore X6.here hx rfl (hb hby at_47) rfl (l' := #[.val (.int iA), .val (.int iF), .val (.int iL), .val (.int iM), .val (.ref b5), .val (.double (FP.i2d iA)), .second, .val (.int (iF &&& (65535 : Int32))), .val (.int (iL &&& (65535 : Int32))), .val (.int ((iL &&& (65535 : Int32)) + (iM &&& (65535 : Int32)))), .val (.double (FP.i2d (iL &&& (65535 : Int32)))), .second, .val (.double (4612136378390124954 : UInt64)), .second, .val (.int (1 : Int32)), .unset, .unset]) rfl k)) ?_
  show Go p.tables e below Pf (T6.setTop (mkF m 49 #[.val (.int iA), .val (.int iF), .val (.int iL), .val (.int iM), .val (.ref b5), .val (.double (FP.i2d iA)), .second, .val (.int (iF &&& (65535 : Int32))), .val (.int (iL &&& (65535 : Int32))), .val (.int ((iL &&& (65535 : Int32)) + (iM &&& (65535 : Int32)))), .val (.double (FP.i2d (iL &&& (65535 : Int32)))), .second, .val (.double (4612136378390124954 : UInt64)), .second, .val (.int (1 : Int32)), .unset, .unset] []))
  have jnhF := own_f iF
  have jnhL := own_f iL
  have jnhM := own_f iM
  have jnG := own_g jnhL jnhM
  show Go p.tables e below Pf (T6.setTop (mkF m 49 #[.val (.int iA), .val (.int iF), .val (.int iL), .val (.int iM), .val (.ref b5), .val (.double (FP.i2d iA)), .second, .val (.int (iF &&& (65535 : Int32))), .val (.int (iL &&& (65535 : Int32))), .val (.int ((iL &&& (65535 : Int32)) + (iM &&& (65535 : Int32)))), .val (.double (FP.i2d (iL &&& (65535 : Int32)))), .second, .val (.double (4612136378390124954 : UInt64)), .second, .val (.int (1 : Int32)), .unset, .unset] []))
  refine Go.by' (fun t k => (XS.iload X6.here hx rfl (hb hby at_49) rfl (XS.ifNo X6.here hx rfl (hb hby at_51) rfl ((if0 _ _).trans (feq (by decide)).1) (XS.aload X6.here hx rfl (hb hby at_54) rfl rfl (XS.dload X6.here hx rfl (hb hby at_56) rfl (XS.iconst X6.here hx rfl (hb hby at_58) (XS.dconst0 X6.here hx rfl (hb hby at_59) rfl k))))))) ?_
  show Go p.tables e below Pf (T6.setTop (mkF m 60 #[.val (.int iA), .val (.int iF), .val (.int iL), .val (.int iM), .val (.ref b5), .val (.double (FP.i2d iA)), .second, .val (.int (iF &&& (65535 : Int32))), .val (.int (iL &&& (65535 : Int32))), .val (.int ((iL &&& (65535 : Int32)) + (iM &&& (65535 : Int32)))), .val (.double (FP.i2d (iL &&& (65535 : Int32)))), .second, .val (.double (4612136378390124954 : UInt64)), .second, .val (.int (1 : Int32)), .unset, .unset] [(.double FP.dconst0), (.int (1 : Int32)), (.double (FP.i2d iA)), (.ref b5)]))
  obtain ⟨cq7, kq7, q7a, q7b, q7c⟩ := isOf hZ rfl f6_0
  obtain ⟨_, _, ⟨T7, L7, k7, n7⟩, -, X7, ⟨Lc7, hQ7, l7, y7, z7⟩, st7⟩ := X6.virtualBack hx (y := (⟨"com/example/kull/kull/core/search/Bm25", "score", "(DID)D"⟩ : MethodName)) (z := (⟨"com/example/kull/kull/core/search/Bm25", "score", "(DID)D"⟩ : MethodName)) hown (mvT hZ hw15) (mvT hZ hw16) (notFace_of_selects (args := #[]) (mvT hZ hw18)) (mvT hZ hw18) (mvT hZ hw17) (by decide) (backOf (W := 0) (rmSc l Z a0 hw []  b5 ((FP.i2d iA)) ((1 : Int32)) (FP.dconst0) T6.heap n0 O6 (Fl.k1 iA).1 (Fl.k1 iA).2.1 (Fl.k1 iA).2.2.1 (Fl.k1 iA).2.2.2.1) hZ hw19 hw2 (by decide) (by decide)) q7a q7c (g := (mkF m 60 #[.val (.int iA), .val (.int iF), .val (.int iL), .val (.int iM), .val (.ref b5), .val (.double (FP.i2d iA)), .second, .val (.int (iF &&& (65535 : Int32))), .val (.int (iL &&& (65535 : Int32))), .val (.int ((iL &&& (65535 : Int32)) + (iM &&& (65535 : Int32)))), .val (.double (FP.i2d (iL &&& (65535 : Int32)))), .second, .val (.double (4612136378390124954 : UInt64)), .second, .val (.int (1 : Int32)), .unset, .unset] [(.double FP.dconst0), (.int (1 : Int32)), (.double (FP.i2d iA)), (.ref b5)])) rfl (by rw [hml]; rfl) (Steps.refl _) (argsL := [(.double (FP.i2d iA)), (.int (1 : Int32)), (.double FP.dconst0)]) (rest := []) (lenOf pd_1 rfl) rfl (by show 2 * 0 + _ ≤ _; exact Nat.le_of_eq rfl) (hb hby at_60) (fun _ _ => ⟨rfl, rfl, (by decide : 1 + 0 ≤ _), (by decide : 2 + 0 ≤ _)⟩)
  dsimp only [Pt.U, Pt.locs, Pt.cells, Pt.slots] at X7 l7 y7 z7 st7 hQ7
  subst l7 y7 z7
  obtain ⟨rfl, rfl, e7⟩ := hQ7
  try replace X7 := own_nil X7
  refine Go.by' (fun t k => st7.trans k) ?_
  show Go p.tables e below Pf (T7.setTop (mkF m 63 #[.val (.int iA), .val (.int iF), .val (.int iL), .val (.int iM), .val (.ref b5), .val (.double (FP.i2d iA)), .second, .val (.int (iF &&& (65535 : Int32))), .val (.int (iL &&& (65535 : Int32))), .val (.int ((iL &&& (65535 : Int32)) + (iM &&& (65535 : Int32)))), .val (.double (FP.i2d (iL &&& (65535 : Int32)))), .second, .val (.double (4612136378390124954 : UInt64)), .second, .val (.int (1 : Int32)), .unset, .unset] [(.double (Fl.scf (FP.i2d iA) (1 : Int32) FP.dconst0))]))
  refine Go.by' (fun t k => (XS.dload X7.here hx rfl (hb hby at_63) rfl (XS.dload X7.here hx rfl (hb hby at_65) rfl (XS.dmulS X7.here hx rfl (hb hby at_67) rfl (Fl.dv_ac iA).nn rfl (XS.dcmpS X7.here hx rfl (hb hby at_68) rfl rfl (XS.ifNo X7.here hx rfl (hb hby at_69) rfl ((if0 _ _).trans (teq (by rw [Fl.e1 iA]; decide)).2) (XS.iconst X7.here hx rfl (hb hby at_72) k))))))) ?_
  show Go p.tables e below Pf (T7.setTop (mkF m 73 #[.val (.int iA), .val (.int iF), .val (.int iL), .val (.int iM), .val (.ref b5), .val (.double (FP.i2d iA)), .second, .val (.int (iF &&& (65535 : Int32))), .val (.int (iL &&& (65535 : Int32))), .val (.int ((iL &&& (65535 : Int32)) + (iM &&& (65535 : Int32)))), .val (.double (FP.i2d (iL &&& (65535 : Int32)))), .second, .val (.double (4612136378390124954 : UInt64)), .second, .val (.int (1 : Int32)), .unset, .unset] [(.int (1 : Int32))]))
  refine Go.by' (fun t k => (XS.goto X7.here hx rfl (pc0 := 73) (pc' := 77) rfl (hb hby at_73) (by decide) (by decide) (XS.istore X7.here hx rfl (hb hby at_77) rfl (l' := #[.val (.int iA), .val (.int iF), .val (.int iL), .val (.int iM), .val (.ref b5), .val (.double (FP.i2d iA)), .second, .val (.int (iF &&& (65535 : Int32))), .val (.int (iL &&& (65535 : Int32))), .val (.int ((iL &&& (65535 : Int32)) + (iM &&& (65535 : Int32)))), .val (.double (FP.i2d (iL &&& (65535 : Int32)))), .second, .val (.double (4612136378390124954 : UInt64)), .second, .val (.int (1 : Int32)), .unset, .unset]) rfl (XS.iload X7.here hx rfl (hb hby at_79) rfl (XS.ifNo X7.here hx rfl (hb hby at_81) rfl ((if0 _ _).trans (feq (by decide)).1) (XS.aload X7.here hx rfl (hb hby at_84) rfl rfl (XS.dload X7.here hx rfl (hb hby at_86) rfl k))))))) ?_
  show Go p.tables e below Pf (T7.setTop (mkF m 88 #[.val (.int iA), .val (.int iF), .val (.int iL), .val (.int iM), .val (.ref b5), .val (.double (FP.i2d iA)), .second, .val (.int (iF &&& (65535 : Int32))), .val (.int (iL &&& (65535 : Int32))), .val (.int ((iL &&& (65535 : Int32)) + (iM &&& (65535 : Int32)))), .val (.double (FP.i2d (iL &&& (65535 : Int32)))), .second, .val (.double (4612136378390124954 : UInt64)), .second, .val (.int (1 : Int32)), .unset, .unset] [(.double (FP.i2d iA)), (.ref b5)]))
  refine Go.by' (fun t k => (XS.iconst X7.here hx rfl (hb hby at_88) (XS.dconst1 X7.here hx rfl (hb hby at_89) rfl k))) ?_
  show Go p.tables e below Pf (T7.setTop (mkF m 90 #[.val (.int iA), .val (.int iF), .val (.int iL), .val (.int iM), .val (.ref b5), .val (.double (FP.i2d iA)), .second, .val (.int (iF &&& (65535 : Int32))), .val (.int (iL &&& (65535 : Int32))), .val (.int ((iL &&& (65535 : Int32)) + (iM &&& (65535 : Int32)))), .val (.double (FP.i2d (iL &&& (65535 : Int32)))), .second, .val (.double (4612136378390124954 : UInt64)), .second, .val (.int (1 : Int32)), .unset, .unset] [(.double FP.dconst1), (.int (1 : Int32)), (.double (FP.i2d iA)), (.ref b5)]))
  obtain ⟨cq8, kq8, q8a, q8b, q8c⟩ := isOf hZ e7 f6_0
  obtain ⟨_, _, ⟨T8, L8, k8, n8⟩, -, X8, ⟨Lc8, hQ8, l8, y8, z8⟩, st8⟩ := X7.virtualBack hx (y := (⟨"com/example/kull/kull/core/search/Bm25", "score", "(DID)D"⟩ : MethodName)) (z := (⟨"com/example/kull/kull/core/search/Bm25", "score", "(DID)D"⟩ : MethodName)) hown (mvT hZ hw15) (mvT hZ hw16) (notFace_of_selects (args := #[]) (mvT hZ hw18)) (mvT hZ hw18) (mvT hZ hw17) (by decide) (backOf (W := 0) (rmSc l Z a0 hw []  b5 ((FP.i2d iA)) ((1 : Int32)) (FP.dconst1) T6.heap n0 O6 (Fl.k2 iA).1 (Fl.k2 iA).2.1 (Fl.k2 iA).2.2.1 (Fl.k2 iA).2.2.2.1) hZ hw19 hw2 (by decide) (by decide)) q8a q8c (g := (mkF m 90 #[.val (.int iA), .val (.int iF), .val (.int iL), .val (.int iM), .val (.ref b5), .val (.double (FP.i2d iA)), .second, .val (.int (iF &&& (65535 : Int32))), .val (.int (iL &&& (65535 : Int32))), .val (.int ((iL &&& (65535 : Int32)) + (iM &&& (65535 : Int32)))), .val (.double (FP.i2d (iL &&& (65535 : Int32)))), .second, .val (.double (4612136378390124954 : UInt64)), .second, .val (.int (1 : Int32)), .unset, .unset] [(.double FP.dconst1), (.int (1 : Int32)), (.double (FP.i2d iA)), (.ref b5)])) rfl (by rw [hml]; rfl) (Steps.refl _) (argsL := [(.double (FP.i2d iA)), (.int (1 : Int32)), (.double FP.dconst1)]) (rest := []) (lenOf pd_1 rfl) rfl (by show 2 * 0 + _ ≤ _; exact Nat.le_of_eq rfl) (hb hby at_90) (fun _ _ => ⟨rfl, e7, (by decide : 1 + 0 ≤ _), (by decide : 2 + 0 ≤ _)⟩)
  dsimp only [Pt.U, Pt.locs, Pt.cells, Pt.slots] at X8 l8 y8 z8 st8 hQ8
  subst l8 y8 z8
  obtain ⟨rfl, rfl, e8⟩ := hQ8
  try replace X8 := own_nil X8
  refine Go.by' (fun t k => st8.trans k) ?_
  show Go p.tables e below Pf (T8.setTop (mkF m 93 #[.val (.int iA), .val (.int iF), .val (.int iL), .val (.int iM), .val (.ref b5), .val (.double (FP.i2d iA)), .second, .val (.int (iF &&& (65535 : Int32))), .val (.int (iL &&& (65535 : Int32))), .val (.int ((iL &&& (65535 : Int32)) + (iM &&& (65535 : Int32)))), .val (.double (FP.i2d (iL &&& (65535 : Int32)))), .second, .val (.double (4612136378390124954 : UInt64)), .second, .val (.int (1 : Int32)), .unset, .unset] [(.double (Fl.scf (FP.i2d iA) (1 : Int32) FP.dconst1))]))
  refine Go.by' (fun t k => (XS.dload X8.here hx rfl (hb hby at_93) rfl (XS.dload X8.here hx rfl (hb hby at_95) rfl (XS.dmulS X8.here hx rfl (hb hby at_97) rfl (Fl.dv_ac iA).nn rfl (X8.ldc2DoubleC hx hown (mvT hZ hw21) (g := (mkF m 98 #[.val (.int iA), .val (.int iF), .val (.int iL), .val (.int iM), .val (.ref b5), .val (.double (FP.i2d iA)), .second, .val (.int (iF &&& (65535 : Int32))), .val (.int (iL &&& (65535 : Int32))), .val (.int ((iL &&& (65535 : Int32)) + (iM &&& (65535 : Int32)))), .val (.double (FP.i2d (iL &&& (65535 : Int32)))), .second, .val (.double (4612136378390124954 : UInt64)), .second, .val (.int (1 : Int32)), .unset, .unset] [(.double (FP.dmul (FP.i2d iA) (4612136378390124954 : UInt64))), (.double (Fl.scf (FP.i2d iA) (1 : Int32) FP.dconst1))])) rfl (hb hby at_98) t (XS.ddivS X8.here hx rfl (hb hby at_101) rfl (Fl.dv_ac2 iA).nn rfl (XS.dcmpS X8.here hx rfl (hb hby at_102) rfl rfl k))))))) ?_
  show Go p.tables e below Pf (T8.setTop (mkF m 103 #[.val (.int iA), .val (.int iF), .val (.int iL), .val (.int iM), .val (.ref b5), .val (.double (FP.i2d iA)), .second, .val (.int (iF &&& (65535 : Int32))), .val (.int (iL &&& (65535 : Int32))), .val (.int ((iL &&& (65535 : Int32)) + (iM &&& (65535 : Int32)))), .val (.double (FP.i2d (iL &&& (65535 : Int32)))), .second, .val (.double (4612136378390124954 : UInt64)), .second, .val (.int (1 : Int32)), .unset, .unset] [(.int (cmpValue (FP.dcmp (Fl.scf (FP.i2d iA) (1 : Int32) FP.dconst1) (FP.ddiv (FP.dmul (FP.i2d iA) (4612136378390124954 : UInt64)) (4611686018427387904 : UInt64))) .l))]))
  refine Go.by' (fun t k => (XS.ifNo X8.here hx rfl (hb hby at_103) rfl ((if0 _ _).trans (teq (by rw [Fl.e2 iA]; decide)).2) (XS.iconst X8.here hx rfl (hb hby at_106) (XS.goto X8.here hx rfl (pc0 := 107) (pc' := 111) rfl (hb hby at_107) (by decide) (by decide) (XS.istore X8.here hx rfl (hb hby at_111) rfl (l' := #[.val (.int iA), .val (.int iF), .val (.int iL), .val (.int iM), .val (.ref b5), .val (.double (FP.i2d iA)), .second, .val (.int (iF &&& (65535 : Int32))), .val (.int (iL &&& (65535 : Int32))), .val (.int ((iL &&& (65535 : Int32)) + (iM &&& (65535 : Int32)))), .val (.double (FP.i2d (iL &&& (65535 : Int32)))), .second, .val (.double (4612136378390124954 : UInt64)), .second, .val (.int (1 : Int32)), .unset, .unset]) rfl (XS.iload X8.here hx rfl (hb hby at_113) rfl (XS.ifNo X8.here hx rfl (hb hby at_115) rfl ((if0 _ _).trans (feq (by decide)).1) k))))))) ?_
  show Go p.tables e below Pf (T8.setTop (mkF m 118 #[.val (.int iA), .val (.int iF), .val (.int iL), .val (.int iM), .val (.ref b5), .val (.double (FP.i2d iA)), .second, .val (.int (iF &&& (65535 : Int32))), .val (.int (iL &&& (65535 : Int32))), .val (.int ((iL &&& (65535 : Int32)) + (iM &&& (65535 : Int32)))), .val (.double (FP.i2d (iL &&& (65535 : Int32)))), .second, .val (.double (4612136378390124954 : UInt64)), .second, .val (.int (1 : Int32)), .unset, .unset] []))
  refine Go.by' (fun t k => (XS.aload X8.here hx rfl (hb hby at_118) rfl rfl (XS.dload X8.here hx rfl (hb hby at_120) rfl (XS.iconst X8.here hx rfl (hb hby at_122) (XS.dload X8.here hx rfl (hb hby at_123) rfl (XS.dconst1 X8.here hx rfl (hb hby at_125) rfl (XS.daddS X8.here hx rfl (hb hby at_126) rfl (Fl.dv_l1 jnhL).nn rfl k))))))) ?_
  show Go p.tables e below Pf (T8.setTop (mkF m 127 #[.val (.int iA), .val (.int iF), .val (.int iL), .val (.int iM), .val (.ref b5), .val (.double (FP.i2d iA)), .second, .val (.int (iF &&& (65535 : Int32))), .val (.int (iL &&& (65535 : Int32))), .val (.int ((iL &&& (65535 : Int32)) + (iM &&& (65535 : Int32)))), .val (.double (FP.i2d (iL &&& (65535 : Int32)))), .second, .val (.double (4612136378390124954 : UInt64)), .second, .val (.int (1 : Int32)), .unset, .unset] [(.double (FP.dadd (FP.i2d (iL &&& (65535 : Int32))) FP.dconst1)), (.int (0 : Int32)), (.double (FP.i2d iA)), (.ref b5)]))
  obtain ⟨cq9, kq9, q9a, q9b, q9c⟩ := isOf hZ e8 f6_0
  obtain ⟨_, _, ⟨T9, L9, k9, n9⟩, -, X9, ⟨Lc9, hQ9, l9, y9, z9⟩, st9⟩ := X8.virtualBack hx (y := (⟨"com/example/kull/kull/core/search/Bm25", "score", "(DID)D"⟩ : MethodName)) (z := (⟨"com/example/kull/kull/core/search/Bm25", "score", "(DID)D"⟩ : MethodName)) hown (mvT hZ hw15) (mvT hZ hw16) (notFace_of_selects (args := #[]) (mvT hZ hw18)) (mvT hZ hw18) (mvT hZ hw17) (by decide) (backOf (W := 0) (rmSc l Z a0 hw []  b5 ((FP.i2d iA)) ((0 : Int32)) ((FP.dadd (FP.i2d (iL &&& (65535 : Int32))) FP.dconst1)) T6.heap n0 O6 (Fl.k3 (a := iA) jnhL).1 (Fl.k3 (a := iA) jnhL).2.1 (Fl.k3 (a := iA) jnhL).2.2.1 (Fl.k3 (a := iA) jnhL).2.2.2.1) hZ hw19 hw2 (by decide) (by decide)) q9a q9c (g := (mkF m 127 #[.val (.int iA), .val (.int iF), .val (.int iL), .val (.int iM), .val (.ref b5), .val (.double (FP.i2d iA)), .second, .val (.int (iF &&& (65535 : Int32))), .val (.int (iL &&& (65535 : Int32))), .val (.int ((iL &&& (65535 : Int32)) + (iM &&& (65535 : Int32)))), .val (.double (FP.i2d (iL &&& (65535 : Int32)))), .second, .val (.double (4612136378390124954 : UInt64)), .second, .val (.int (1 : Int32)), .unset, .unset] [(.double (FP.dadd (FP.i2d (iL &&& (65535 : Int32))) FP.dconst1)), (.int (0 : Int32)), (.double (FP.i2d iA)), (.ref b5)])) rfl (by rw [hml]; rfl) (Steps.refl _) (argsL := [(.double (FP.i2d iA)), (.int (0 : Int32)), (.double (FP.dadd (FP.i2d (iL &&& (65535 : Int32))) FP.dconst1))]) (rest := []) (lenOf pd_1 rfl) rfl (by show 2 * 0 + _ ≤ _; exact Nat.le_of_eq rfl) (hb hby at_127) (fun _ _ => ⟨rfl, e8, (by decide : 1 + 0 ≤ _), (by decide : 2 + 0 ≤ _)⟩)
  dsimp only [Pt.U, Pt.locs, Pt.cells, Pt.slots] at X9 l9 y9 z9 st9 hQ9
  subst l9 y9 z9
  obtain ⟨rfl, rfl, e9⟩ := hQ9
  try replace X9 := own_nil X9
  refine Go.by' (fun t k => st9.trans k) ?_
  show Go p.tables e below Pf (T9.setTop (mkF m 130 #[.val (.int iA), .val (.int iF), .val (.int iL), .val (.int iM), .val (.ref b5), .val (.double (FP.i2d iA)), .second, .val (.int (iF &&& (65535 : Int32))), .val (.int (iL &&& (65535 : Int32))), .val (.int ((iL &&& (65535 : Int32)) + (iM &&& (65535 : Int32)))), .val (.double (FP.i2d (iL &&& (65535 : Int32)))), .second, .val (.double (4612136378390124954 : UInt64)), .second, .val (.int (1 : Int32)), .unset, .unset] [(.double (Fl.scf (FP.i2d iA) (0 : Int32) (FP.dadd (FP.i2d (iL &&& (65535 : Int32))) FP.dconst1)))]))
  refine Go.by' (fun t k => (XS.dconst0 X9.here hx rfl (hb hby at_130) rfl (XS.dcmpS X9.here hx rfl (hb hby at_131) rfl rfl (XS.ifNo X9.here hx rfl (hb hby at_132) rfl ((if0 _ _).trans (teq (by rw [Fl.e3 jnhL]; decide)).2) (XS.iconst X9.here hx rfl (hb hby at_135) (XS.goto X9.here hx rfl (pc0 := 136) (pc' := 140) rfl (hb hby at_136) (by decide) (by decide) (XS.istore X9.here hx rfl (hb hby at_140) rfl (l' := #[.val (.int iA), .val (.int iF), .val (.int iL), .val (.int iM), .val (.ref b5), .val (.double (FP.i2d iA)), .second, .val (.int (iF &&& (65535 : Int32))), .val (.int (iL &&& (65535 : Int32))), .val (.int ((iL &&& (65535 : Int32)) + (iM &&& (65535 : Int32)))), .val (.double (FP.i2d (iL &&& (65535 : Int32)))), .second, .val (.double (4612136378390124954 : UInt64)), .second, .val (.int (1 : Int32)), .unset, .unset]) rfl k))))))) ?_
  show Go p.tables e below Pf (T9.setTop (mkF m 142 #[.val (.int iA), .val (.int iF), .val (.int iL), .val (.int iM), .val (.ref b5), .val (.double (FP.i2d iA)), .second, .val (.int (iF &&& (65535 : Int32))), .val (.int (iL &&& (65535 : Int32))), .val (.int ((iL &&& (65535 : Int32)) + (iM &&& (65535 : Int32)))), .val (.double (FP.i2d (iL &&& (65535 : Int32)))), .second, .val (.double (4612136378390124954 : UInt64)), .second, .val (.int (1 : Int32)), .unset, .unset] []))
  refine Go.by' (fun t k => (XS.iload X9.here hx rfl (hb hby at_142) rfl (XS.iload X9.here hx rfl (hb hby at_144) rfl (XS.iadd X9.here hx rfl (hb hby at_146) rfl k)))) ?_
  show Go p.tables e below Pf (T9.setTop (mkF m 147 #[.val (.int iA), .val (.int iF), .val (.int iL), .val (.int iM), .val (.ref b5), .val (.double (FP.i2d iA)), .second, .val (.int (iF &&& (65535 : Int32))), .val (.int (iL &&& (65535 : Int32))), .val (.int ((iL &&& (65535 : Int32)) + (iM &&& (65535 : Int32)))), .val (.double (FP.i2d (iL &&& (65535 : Int32)))), .second, .val (.double (4612136378390124954 : UInt64)), .second, .val (.int (1 : Int32)), .unset, .unset] [(.int ((iF &&& (65535 : Int32)) + (iL &&& (65535 : Int32))))]))
  by_cases hc10 : ((iF &&& (65535 : Int32)) + (iL &&& (65535 : Int32))) = (0 : Int32)
  · refine Go.by' (fun t k => (XS.ifNo X9.here hx rfl (hb hby at_147) rfl ((if0 _ _).trans (teq hc10).2) (XS.iload X9.here hx rfl (hb hby at_150) rfl k))) ?_
    show Go p.tables e below Pf (T9.setTop (mkF m 152 #[.val (.int iA), .val (.int iF), .val (.int iL), .val (.int iM), .val (.ref b5), .val (.double (FP.i2d iA)), .second, .val (.int (iF &&& (65535 : Int32))), .val (.int (iL &&& (65535 : Int32))), .val (.int ((iL &&& (65535 : Int32)) + (iM &&& (65535 : Int32)))), .val (.double (FP.i2d (iL &&& (65535 : Int32)))), .second, .val (.double (4612136378390124954 : UInt64)), .second, .val (.int (1 : Int32)), .unset, .unset] [(.int (1 : Int32))]))
    rw [hPf]
    exact Go.retI' X9 hx hret hlk (by simp) rfl (hb hby at_152) (by decide) (by decide) ⟨rfl, N6, (by rw [e9]; exact KC6)⟩
  · refine Go.by' (fun t k => (XS.ifYes X9.here hx rfl (pc0 := 147) (pc' := 153) rfl (hb hby at_147) rfl ((if0 _ _).trans (feq hc10).2) (by decide) (by decide) (XS.aload X9.here hx rfl (hb hby at_153) rfl rfl (XS.dload X9.here hx rfl (hb hby at_155) rfl (XS.iload X9.here hx rfl (hb hby at_157) rfl (XS.dload X9.here hx rfl (hb hby at_159) rfl k)))))) ?_
    show Go p.tables e below Pf (T9.setTop (mkF m 161 #[.val (.int iA), .val (.int iF), .val (.int iL), .val (.int iM), .val (.ref b5), .val (.double (FP.i2d iA)), .second, .val (.int (iF &&& (65535 : Int32))), .val (.int (iL &&& (65535 : Int32))), .val (.int ((iL &&& (65535 : Int32)) + (iM &&& (65535 : Int32)))), .val (.double (FP.i2d (iL &&& (65535 : Int32)))), .second, .val (.double (4612136378390124954 : UInt64)), .second, .val (.int (1 : Int32)), .unset, .unset] [(.double (FP.i2d (iL &&& (65535 : Int32)))), (.int (iF &&& (65535 : Int32))), (.double (FP.i2d iA)), (.ref b5)]))
    obtain ⟨cq11, kq11, q11a, q11b, q11c⟩ := isOf hZ e9 f6_0
    obtain ⟨_, _, ⟨T11, L11, k11, n11⟩, -, X11, ⟨Lc11, hQ11, l11, y11, z11⟩, st11⟩ := X9.virtualBack hx (y := (⟨"com/example/kull/kull/core/search/Bm25", "score", "(DID)D"⟩ : MethodName)) (z := (⟨"com/example/kull/kull/core/search/Bm25", "score", "(DID)D"⟩ : MethodName)) hown (mvT hZ hw15) (mvT hZ hw16) (notFace_of_selects (args := #[]) (mvT hZ hw18)) (mvT hZ hw18) (mvT hZ hw17) (by decide) (backOf (W := 0) (rmSc l Z a0 hw []  b5 ((FP.i2d iA)) ((iF &&& (65535 : Int32))) ((FP.i2d (iL &&& (65535 : Int32)))) T6.heap n0 O6 (Fl.k4 iA jnhF jnhL (own_p jnhF jnhL hc10)).1 (Fl.k4 iA jnhF jnhL (own_p jnhF jnhL hc10)).2.1 (Fl.k4 iA jnhF jnhL (own_p jnhF jnhL hc10)).2.2.1 (Fl.k4 iA jnhF jnhL (own_p jnhF jnhL hc10)).2.2.2.1) hZ hw19 hw2 (by decide) (by decide)) q11a q11c (g := (mkF m 161 #[.val (.int iA), .val (.int iF), .val (.int iL), .val (.int iM), .val (.ref b5), .val (.double (FP.i2d iA)), .second, .val (.int (iF &&& (65535 : Int32))), .val (.int (iL &&& (65535 : Int32))), .val (.int ((iL &&& (65535 : Int32)) + (iM &&& (65535 : Int32)))), .val (.double (FP.i2d (iL &&& (65535 : Int32)))), .second, .val (.double (4612136378390124954 : UInt64)), .second, .val (.int (1 : Int32)), .unset, .unset] [(.double (FP.i2d (iL &&& (65535 : Int32)))), (.int (iF &&& (65535 : Int32))), (.double (FP.i2d iA)), (.ref b5)])) rfl (by rw [hml]; rfl) (Steps.refl _) (argsL := [(.double (FP.i2d iA)), (.int (iF &&& (65535 : Int32))), (.double (FP.i2d (iL &&& (65535 : Int32))))]) (rest := []) (lenOf pd_1 rfl) rfl (by show 2 * 0 + _ ≤ _; exact Nat.le_of_eq rfl) (hb hby at_161) (fun _ _ => ⟨rfl, e9, (by decide : 1 + 0 ≤ _), (by decide : 2 + 0 ≤ _)⟩)
    dsimp only [Pt.U, Pt.locs, Pt.cells, Pt.slots] at X11 l11 y11 z11 st11 hQ11
    subst l11 y11 z11
    obtain ⟨rfl, rfl, e11⟩ := hQ11
    try replace X11 := own_nil X11
    refine Go.by' (fun t k => st11.trans k) ?_
    show Go p.tables e below Pf (T11.setTop (mkF m 164 #[.val (.int iA), .val (.int iF), .val (.int iL), .val (.int iM), .val (.ref b5), .val (.double (FP.i2d iA)), .second, .val (.int (iF &&& (65535 : Int32))), .val (.int (iL &&& (65535 : Int32))), .val (.int ((iL &&& (65535 : Int32)) + (iM &&& (65535 : Int32)))), .val (.double (FP.i2d (iL &&& (65535 : Int32)))), .second, .val (.double (4612136378390124954 : UInt64)), .second, .val (.int (1 : Int32)), .unset, .unset] [(.double (Fl.scf (FP.i2d iA) (iF &&& (65535 : Int32)) (FP.i2d (iL &&& (65535 : Int32)))))]))
    refine Go.by' (fun t k => (XS.dstore X11.here hx rfl (hb hby at_164) rfl (l' := #[.val (.int iA), .val (.int iF), .val (.int iL), .val (.int iM), .val (.ref b5), .val (.double (FP.i2d iA)), .second, .val (.int (iF &&& (65535 : Int32))), .val (.int (iL &&& (65535 : Int32))), .val (.int ((iL &&& (65535 : Int32)) + (iM &&& (65535 : Int32)))), .val (.double (FP.i2d (iL &&& (65535 : Int32)))), .second, .val (.double (4612136378390124954 : UInt64)), .second, .val (.int (1 : Int32)), .val (.double (Fl.scf (FP.i2d iA) (iF &&& (65535 : Int32)) (FP.i2d (iL &&& (65535 : Int32))))), .second]) rfl (XS.iload X11.here hx rfl (hb hby at_166) rfl (XS.ifNo X11.here hx rfl (hb hby at_168) rfl ((if0 _ _).trans (feq (by decide)).1) (XS.aload X11.here hx rfl (hb hby at_171) rfl rfl (X11.ldc2DoubleC hx hown (mvT hZ hw21) (g := (mkF m 173 #[.val (.int iA), .val (.int iF), .val (.int iL), .val (.int iM), .val (.ref b5), .val (.double (FP.i2d iA)), .second, .val (.int (iF &&& (65535 : Int32))), .val (.int (iL &&& (65535 : Int32))), .val (.int ((iL &&& (65535 : Int32)) + (iM &&& (65535 : Int32)))), .val (.double (FP.i2d (iL &&& (65535 : Int32)))), .second, .val (.double (4612136378390124954 : UInt64)), .second, .val (.int (1 : Int32)), .val (.double (Fl.scf (FP.i2d iA) (iF &&& (65535 : Int32)) (FP.i2d (iL &&& (65535 : Int32))))), .second] [(.ref b5)])) rfl (hb hby at_173) t (XS.dload X11.here hx rfl (hb hby at_176) rfl k))))))) ?_
    show Go p.tables e below Pf (T11.setTop (mkF m 178 #[.val (.int iA), .val (.int iF), .val (.int iL), .val (.int iM), .val (.ref b5), .val (.double (FP.i2d iA)), .second, .val (.int (iF &&& (65535 : Int32))), .val (.int (iL &&& (65535 : Int32))), .val (.int ((iL &&& (65535 : Int32)) + (iM &&& (65535 : Int32)))), .val (.double (FP.i2d (iL &&& (65535 : Int32)))), .second, .val (.double (4612136378390124954 : UInt64)), .second, .val (.int (1 : Int32)), .val (.double (Fl.scf (FP.i2d iA) (iF &&& (65535 : Int32)) (FP.i2d (iL &&& (65535 : Int32))))), .second] [(.double (FP.i2d iA)), (.double (4611686018427387904 : UInt64)), (.ref b5)]))
    refine Go.by' (fun t k => (XS.dmulS X11.here hx rfl (hb hby at_178) rfl (Fl.dv_2a iA).nn rfl (XS.iload X11.here hx rfl (hb hby at_179) rfl (XS.dload X11.here hx rfl (hb hby at_181) rfl k)))) ?_
    show Go p.tables e below Pf (T11.setTop (mkF m 183 #[.val (.int iA), .val (.int iF), .val (.int iL), .val (.int iM), .val (.ref b5), .val (.double (FP.i2d iA)), .second, .val (.int (iF &&& (65535 : Int32))), .val (.int (iL &&& (65535 : Int32))), .val (.int ((iL &&& (65535 : Int32)) + (iM &&& (65535 : Int32)))), .val (.double (FP.i2d (iL &&& (65535 : Int32)))), .second, .val (.double (4612136378390124954 : UInt64)), .second, .val (.int (1 : Int32)), .val (.double (Fl.scf (FP.i2d iA) (iF &&& (65535 : Int32)) (FP.i2d (iL &&& (65535 : Int32))))), .second] [(.double (FP.i2d (iL &&& (65535 : Int32)))), (.int (iF &&& (65535 : Int32))), (.double (FP.dmul (4611686018427387904 : UInt64) (FP.i2d iA))), (.ref b5)]))
    obtain ⟨cq12, kq12, q12a, q12b, q12c⟩ := isOf hZ e11 f6_0
    obtain ⟨_, _, ⟨T12, L12, k12, n12⟩, -, X12, ⟨Lc12, hQ12, l12, y12, z12⟩, st12⟩ := X11.virtualBack hx (y := (⟨"com/example/kull/kull/core/search/Bm25", "score", "(DID)D"⟩ : MethodName)) (z := (⟨"com/example/kull/kull/core/search/Bm25", "score", "(DID)D"⟩ : MethodName)) hown (mvT hZ hw15) (mvT hZ hw16) (notFace_of_selects (args := #[]) (mvT hZ hw18)) (mvT hZ hw18) (mvT hZ hw17) (by decide) (backOf (W := 0) (rmSc l Z a0 hw []  b5 ((FP.dmul (4611686018427387904 : UInt64) (FP.i2d iA))) ((iF &&& (65535 : Int32))) ((FP.i2d (iL &&& (65535 : Int32)))) T6.heap n0 O6 (Fl.k5 iA jnhF jnhL (own_p jnhF jnhL hc10)).1 (Fl.k5 iA jnhF jnhL (own_p jnhF jnhL hc10)).2.1 (Fl.k5 iA jnhF jnhL (own_p jnhF jnhL hc10)).2.2.1 (Fl.k5 iA jnhF jnhL (own_p jnhF jnhL hc10)).2.2.2.1) hZ hw19 hw2 (by decide) (by decide)) q12a q12c (g := (mkF m 183 #[.val (.int iA), .val (.int iF), .val (.int iL), .val (.int iM), .val (.ref b5), .val (.double (FP.i2d iA)), .second, .val (.int (iF &&& (65535 : Int32))), .val (.int (iL &&& (65535 : Int32))), .val (.int ((iL &&& (65535 : Int32)) + (iM &&& (65535 : Int32)))), .val (.double (FP.i2d (iL &&& (65535 : Int32)))), .second, .val (.double (4612136378390124954 : UInt64)), .second, .val (.int (1 : Int32)), .val (.double (Fl.scf (FP.i2d iA) (iF &&& (65535 : Int32)) (FP.i2d (iL &&& (65535 : Int32))))), .second] [(.double (FP.i2d (iL &&& (65535 : Int32)))), (.int (iF &&& (65535 : Int32))), (.double (FP.dmul (4611686018427387904 : UInt64) (FP.i2d iA))), (.ref b5)])) rfl (by rw [hml]; rfl) (Steps.refl _) (argsL := [(.double (FP.dmul (4611686018427387904 : UInt64) (FP.i2d iA))), (.int (iF &&& (65535 : Int32))), (.double (FP.i2d (iL &&& (65535 : Int32))))]) (rest := []) (lenOf pd_1 rfl) rfl (by show 2 * 0 + _ ≤ _; exact Nat.le_of_eq rfl) (hb hby at_183) (fun _ _ => ⟨rfl, e11, (by decide : 1 + 0 ≤ _), (by decide : 2 + 0 ≤ _)⟩)
    dsimp only [Pt.U, Pt.locs, Pt.cells, Pt.slots] at X12 l12 y12 z12 st12 hQ12
    subst l12 y12 z12
    obtain ⟨rfl, rfl, e12⟩ := hQ12
    try replace X12 := own_nil X12
    refine Go.by' (fun t k => st12.trans k) ?_
    show Go p.tables e below Pf (T12.setTop (mkF m 186 #[.val (.int iA), .val (.int iF), .val (.int iL), .val (.int iM), .val (.ref b5), .val (.double (FP.i2d iA)), .second, .val (.int (iF &&& (65535 : Int32))), .val (.int (iL &&& (65535 : Int32))), .val (.int ((iL &&& (65535 : Int32)) + (iM &&& (65535 : Int32)))), .val (.double (FP.i2d (iL &&& (65535 : Int32)))), .second, .val (.double (4612136378390124954 : UInt64)), .second, .val (.int (1 : Int32)), .val (.double (Fl.scf (FP.i2d iA) (iF &&& (65535 : Int32)) (FP.i2d (iL &&& (65535 : Int32))))), .second] [(.double (Fl.scf (FP.dmul (4611686018427387904 : UInt64) (FP.i2d iA)) (iF &&& (65535 : Int32)) (FP.i2d (iL &&& (65535 : Int32)))))]))
    refine Go.by' (fun t k => (X12.ldc2DoubleC hx hown (mvT hZ hw21) (g := (mkF m 186 #[.val (.int iA), .val (.int iF), .val (.int iL), .val (.int iM), .val (.ref b5), .val (.double (FP.i2d iA)), .second, .val (.int (iF &&& (65535 : Int32))), .val (.int (iL &&& (65535 : Int32))), .val (.int ((iL &&& (65535 : Int32)) + (iM &&& (65535 : Int32)))), .val (.double (FP.i2d (iL &&& (65535 : Int32)))), .second, .val (.double (4612136378390124954 : UInt64)), .second, .val (.int (1 : Int32)), .val (.double (Fl.scf (FP.i2d iA) (iF &&& (65535 : Int32)) (FP.i2d (iL &&& (65535 : Int32))))), .second] [(.double (Fl.scf (FP.dmul (4611686018427387904 : UInt64) (FP.i2d iA)) (iF &&& (65535 : Int32)) (FP.i2d (iL &&& (65535 : Int32)))))])) rfl (hb hby at_186) t (XS.dload X12.here hx rfl (hb hby at_189) rfl (XS.dmulS X12.here hx rfl (hb hby at_191) rfl (Fl.e5 iA jnhF jnhL (own_p jnhF jnhL hc10)).1 rfl (XS.dcmpS X12.here hx rfl (hb hby at_192) rfl rfl (XS.ifNo X12.here hx rfl (hb hby at_193) rfl ((if0 _ _).trans (teq (by rw [(Fl.e5 iA jnhF jnhL (own_p jnhF jnhL hc10)).2]; decide)).2) (XS.iconst X12.here hx rfl (hb hby at_196) k))))))) ?_
    show Go p.tables e below Pf (T12.setTop (mkF m 197 #[.val (.int iA), .val (.int iF), .val (.int iL), .val (.int iM), .val (.ref b5), .val (.double (FP.i2d iA)), .second, .val (.int (iF &&& (65535 : Int32))), .val (.int (iL &&& (65535 : Int32))), .val (.int ((iL &&& (65535 : Int32)) + (iM &&& (65535 : Int32)))), .val (.double (FP.i2d (iL &&& (65535 : Int32)))), .second, .val (.double (4612136378390124954 : UInt64)), .second, .val (.int (1 : Int32)), .val (.double (Fl.scf (FP.i2d iA) (iF &&& (65535 : Int32)) (FP.i2d (iL &&& (65535 : Int32))))), .second] [(.int (1 : Int32))]))
    refine Go.by' (fun t k => (XS.goto X12.here hx rfl (pc0 := 197) (pc' := 201) rfl (hb hby at_197) (by decide) (by decide) (XS.istore X12.here hx rfl (hb hby at_201) rfl (l' := #[.val (.int iA), .val (.int iF), .val (.int iL), .val (.int iM), .val (.ref b5), .val (.double (FP.i2d iA)), .second, .val (.int (iF &&& (65535 : Int32))), .val (.int (iL &&& (65535 : Int32))), .val (.int ((iL &&& (65535 : Int32)) + (iM &&& (65535 : Int32)))), .val (.double (FP.i2d (iL &&& (65535 : Int32)))), .second, .val (.double (4612136378390124954 : UInt64)), .second, .val (.int (1 : Int32)), .val (.double (Fl.scf (FP.i2d iA) (iF &&& (65535 : Int32)) (FP.i2d (iL &&& (65535 : Int32))))), .second]) rfl (XS.iload X12.here hx rfl (hb hby at_203) rfl (XS.ifNo X12.here hx rfl (hb hby at_205) rfl ((if0 _ _).trans (feq (by decide)).1) (XS.aload X12.here hx rfl (hb hby at_208) rfl rfl (XS.dload X12.here hx rfl (hb hby at_210) rfl k))))))) ?_
    show Go p.tables e below Pf (T12.setTop (mkF m 212 #[.val (.int iA), .val (.int iF), .val (.int iL), .val (.int iM), .val (.ref b5), .val (.double (FP.i2d iA)), .second, .val (.int (iF &&& (65535 : Int32))), .val (.int (iL &&& (65535 : Int32))), .val (.int ((iL &&& (65535 : Int32)) + (iM &&& (65535 : Int32)))), .val (.double (FP.i2d (iL &&& (65535 : Int32)))), .second, .val (.double (4612136378390124954 : UInt64)), .second, .val (.int (1 : Int32)), .val (.double (Fl.scf (FP.i2d iA) (iF &&& (65535 : Int32)) (FP.i2d (iL &&& (65535 : Int32))))), .second] [(.double (FP.i2d iA)), (.ref b5)]))
    refine Go.by' (fun t k => (XS.dnegS X12.here hx rfl (hb hby at_212) rfl rfl (XS.iload X12.here hx rfl (hb hby at_213) rfl (XS.dload X12.here hx rfl (hb hby at_215) rfl k)))) ?_
    show Go p.tables e below Pf (T12.setTop (mkF m 217 #[.val (.int iA), .val (.int iF), .val (.int iL), .val (.int iM), .val (.ref b5), .val (.double (FP.i2d iA)), .second, .val (.int (iF &&& (65535 : Int32))), .val (.int (iL &&& (65535 : Int32))), .val (.int ((iL &&& (65535 : Int32)) + (iM &&& (65535 : Int32)))), .val (.double (FP.i2d (iL &&& (65535 : Int32)))), .second, .val (.double (4612136378390124954 : UInt64)), .second, .val (.int (1 : Int32)), .val (.double (Fl.scf (FP.i2d iA) (iF &&& (65535 : Int32)) (FP.i2d (iL &&& (65535 : Int32))))), .second] [(.double (FP.i2d (iL &&& (65535 : Int32)))), (.int (iF &&& (65535 : Int32))), (.double (FP.dneg (FP.i2d iA))), (.ref b5)]))
    obtain ⟨cq13, kq13, q13a, q13b, q13c⟩ := isOf hZ e12 f6_0
    obtain ⟨_, _, ⟨T13, L13, k13, n13⟩, -, X13, ⟨Lc13, hQ13, l13, y13, z13⟩, st13⟩ := X12.virtualBack hx (y := (⟨"com/example/kull/kull/core/search/Bm25", "score", "(DID)D"⟩ : MethodName)) (z := (⟨"com/example/kull/kull/core/search/Bm25", "score", "(DID)D"⟩ : MethodName)) hown (mvT hZ hw15) (mvT hZ hw16) (notFace_of_selects (args := #[]) (mvT hZ hw18)) (mvT hZ hw18) (mvT hZ hw17) (by decide) (backOf (W := 0) (rmSc l Z a0 hw []  b5 ((FP.dneg (FP.i2d iA))) ((iF &&& (65535 : Int32))) ((FP.i2d (iL &&& (65535 : Int32)))) T6.heap n0 O6 (Fl.k6 iA jnhF jnhL (own_p jnhF jnhL hc10)).1 (Fl.k6 iA jnhF jnhL (own_p jnhF jnhL hc10)).2.1 (Fl.k6 iA jnhF jnhL (own_p jnhF jnhL hc10)).2.2.1 (Fl.k6 iA jnhF jnhL (own_p jnhF jnhL hc10)).2.2.2.1) hZ hw19 hw2 (by decide) (by decide)) q13a q13c (g := (mkF m 217 #[.val (.int iA), .val (.int iF), .val (.int iL), .val (.int iM), .val (.ref b5), .val (.double (FP.i2d iA)), .second, .val (.int (iF &&& (65535 : Int32))), .val (.int (iL &&& (65535 : Int32))), .val (.int ((iL &&& (65535 : Int32)) + (iM &&& (65535 : Int32)))), .val (.double (FP.i2d (iL &&& (65535 : Int32)))), .second, .val (.double (4612136378390124954 : UInt64)), .second, .val (.int (1 : Int32)), .val (.double (Fl.scf (FP.i2d iA) (iF &&& (65535 : Int32)) (FP.i2d (iL &&& (65535 : Int32))))), .second] [(.double (FP.i2d (iL &&& (65535 : Int32)))), (.int (iF &&& (65535 : Int32))), (.double (FP.dneg (FP.i2d iA))), (.ref b5)])) rfl (by rw [hml]; rfl) (Steps.refl _) (argsL := [(.double (FP.dneg (FP.i2d iA))), (.int (iF &&& (65535 : Int32))), (.double (FP.i2d (iL &&& (65535 : Int32))))]) (rest := []) (lenOf pd_1 rfl) rfl (by show 2 * 0 + _ ≤ _; exact Nat.le_of_eq rfl) (hb hby at_217) (fun _ _ => ⟨rfl, e12, (by decide : 1 + 0 ≤ _), (by decide : 2 + 0 ≤ _)⟩)
    dsimp only [Pt.U, Pt.locs, Pt.cells, Pt.slots] at X13 l13 y13 z13 st13 hQ13
    subst l13 y13 z13
    obtain ⟨rfl, rfl, e13⟩ := hQ13
    try replace X13 := own_nil X13
    refine Go.by' (fun t k => st13.trans k) ?_
    show Go p.tables e below Pf (T13.setTop (mkF m 220 #[.val (.int iA), .val (.int iF), .val (.int iL), .val (.int iM), .val (.ref b5), .val (.double (FP.i2d iA)), .second, .val (.int (iF &&& (65535 : Int32))), .val (.int (iL &&& (65535 : Int32))), .val (.int ((iL &&& (65535 : Int32)) + (iM &&& (65535 : Int32)))), .val (.double (FP.i2d (iL &&& (65535 : Int32)))), .second, .val (.double (4612136378390124954 : UInt64)), .second, .val (.int (1 : Int32)), .val (.double (Fl.scf (FP.i2d iA) (iF &&& (65535 : Int32)) (FP.i2d (iL &&& (65535 : Int32))))), .second] [(.double (Fl.scf (FP.dneg (FP.i2d iA)) (iF &&& (65535 : Int32)) (FP.i2d (iL &&& (65535 : Int32)))))]))
    refine Go.by' (fun t k => (XS.dload X13.here hx rfl (hb hby at_220) rfl (XS.dnegS X13.here hx rfl (hb hby at_222) rfl rfl (XS.dcmpS X13.here hx rfl (hb hby at_223) rfl rfl (XS.ifNo X13.here hx rfl (hb hby at_224) rfl ((if0 _ _).trans (teq (by rw [Fl.e6 iA jnhF jnhL (own_p jnhF jnhL hc10)]; decide)).2) (XS.iconst X13.here hx rfl (hb hby at_227) (XS.goto X13.here hx rfl (pc0 := 228) (pc' := 232) rfl (hb hby at_228) (by decide) (by decide) k))))))) ?_
    show Go p.tables e below Pf (T13.setTop (mkF m 232 #[.val (.int iA), .val (.int iF), .val (.int iL), .val (.int iM), .val (.ref b5), .val (.double (FP.i2d iA)), .second, .val (.int (iF &&& (65535 : Int32))), .val (.int (iL &&& (65535 : Int32))), .val (.int ((iL &&& (65535 : Int32)) + (iM &&& (65535 : Int32)))), .val (.double (FP.i2d (iL &&& (65535 : Int32)))), .second, .val (.double (4612136378390124954 : UInt64)), .second, .val (.int (1 : Int32)), .val (.double (Fl.scf (FP.i2d iA) (iF &&& (65535 : Int32)) (FP.i2d (iL &&& (65535 : Int32))))), .second] [(.int (1 : Int32))]))
    refine Go.by' (fun t k => (XS.istore X13.here hx rfl (hb hby at_232) rfl (l' := #[.val (.int iA), .val (.int iF), .val (.int iL), .val (.int iM), .val (.ref b5), .val (.double (FP.i2d iA)), .second, .val (.int (iF &&& (65535 : Int32))), .val (.int (iL &&& (65535 : Int32))), .val (.int ((iL &&& (65535 : Int32)) + (iM &&& (65535 : Int32)))), .val (.double (FP.i2d (iL &&& (65535 : Int32)))), .second, .val (.double (4612136378390124954 : UInt64)), .second, .val (.int (1 : Int32)), .val (.double (Fl.scf (FP.i2d iA) (iF &&& (65535 : Int32)) (FP.i2d (iL &&& (65535 : Int32))))), .second]) rfl (XS.iload X13.here hx rfl (hb hby at_234) rfl (XS.ifNo X13.here hx rfl (hb hby at_236) rfl ((if0 _ _).trans (feq (by decide)).1) (XS.aload X13.here hx rfl (hb hby at_239) rfl rfl (XS.dload X13.here hx rfl (hb hby at_241) rfl (XS.iconst X13.here hx rfl (hb hby at_243) k))))))) ?_
    show Go p.tables e below Pf (T13.setTop (mkF m 244 #[.val (.int iA), .val (.int iF), .val (.int iL), .val (.int iM), .val (.ref b5), .val (.double (FP.i2d iA)), .second, .val (.int (iF &&& (65535 : Int32))), .val (.int (iL &&& (65535 : Int32))), .val (.int ((iL &&& (65535 : Int32)) + (iM &&& (65535 : Int32)))), .val (.double (FP.i2d (iL &&& (65535 : Int32)))), .second, .val (.double (4612136378390124954 : UInt64)), .second, .val (.int (1 : Int32)), .val (.double (Fl.scf (FP.i2d iA) (iF &&& (65535 : Int32)) (FP.i2d (iL &&& (65535 : Int32))))), .second] [(.int (2 : Int32)), (.double (FP.i2d iA)), (.ref b5)]))
    refine Go.by' (fun t k => (XS.iload X13.here hx rfl (hb hby at_244) rfl (XS.imul X13.here hx rfl (hb hby at_246) rfl (X13.ldc2DoubleC hx hown (mvT hZ hw21) (g := (mkF m 247 #[.val (.int iA), .val (.int iF), .val (.int iL), .val (.int iM), .val (.ref b5), .val (.double (FP.i2d iA)), .second, .val (.int (iF &&& (65535 : Int32))), .val (.int (iL &&& (65535 : Int32))), .val (.int ((iL &&& (65535 : Int32)) + (iM &&& (65535 : Int32)))), .val (.double (FP.i2d (iL &&& (65535 : Int32)))), .second, .val (.double (4612136378390124954 : UInt64)), .second, .val (.int (1 : Int32)), .val (.double (Fl.scf (FP.i2d iA) (iF &&& (65535 : Int32)) (FP.i2d (iL &&& (65535 : Int32))))), .second] [(.int ((2 : Int32) * (iF &&& (65535 : Int32)))), (.double (FP.i2d iA)), (.ref b5)])) rfl (hb hby at_247) t (XS.dload X13.here hx rfl (hb hby at_250) rfl (XS.dmulS X13.here hx rfl (hb hby at_252) rfl (Fl.dv_2a _).nn rfl k)))))) ?_
    show Go p.tables e below Pf (T13.setTop (mkF m 253 #[.val (.int iA), .val (.int iF), .val (.int iL), .val (.int iM), .val (.ref b5), .val (.double (FP.i2d iA)), .second, .val (.int (iF &&& (65535 : Int32))), .val (.int (iL &&& (65535 : Int32))), .val (.int ((iL &&& (65535 : Int32)) + (iM &&& (65535 : Int32)))), .val (.double (FP.i2d (iL &&& (65535 : Int32)))), .second, .val (.double (4612136378390124954 : UInt64)), .second, .val (.int (1 : Int32)), .val (.double (Fl.scf (FP.i2d iA) (iF &&& (65535 : Int32)) (FP.i2d (iL &&& (65535 : Int32))))), .second] [(.double (FP.dmul (4611686018427387904 : UInt64) (FP.i2d (iL &&& (65535 : Int32))))), (.int ((2 : Int32) * (iF &&& (65535 : Int32)))), (.double (FP.i2d iA)), (.ref b5)]))
    obtain ⟨cq14, kq14, q14a, q14b, q14c⟩ := isOf hZ e13 f6_0
    obtain ⟨_, _, ⟨T14, L14, k14, n14⟩, -, X14, ⟨Lc14, hQ14, l14, y14, z14⟩, st14⟩ := X13.virtualBack hx (y := (⟨"com/example/kull/kull/core/search/Bm25", "score", "(DID)D"⟩ : MethodName)) (z := (⟨"com/example/kull/kull/core/search/Bm25", "score", "(DID)D"⟩ : MethodName)) hown (mvT hZ hw15) (mvT hZ hw16) (notFace_of_selects (args := #[]) (mvT hZ hw18)) (mvT hZ hw18) (mvT hZ hw17) (by decide) (backOf (W := 0) (rmSc l Z a0 hw []  b5 ((FP.i2d iA)) (((2 : Int32) * (iF &&& (65535 : Int32)))) ((FP.dmul (4611686018427387904 : UInt64) (FP.i2d (iL &&& (65535 : Int32))))) T6.heap n0 O6 (Fl.k7 iA jnhF jnhL (own_p jnhF jnhL hc10)).1 (Fl.k7 iA jnhF jnhL (own_p jnhF jnhL hc10)).2.1 (Fl.k7 iA jnhF jnhL (own_p jnhF jnhL hc10)).2.2.1 (Fl.k7 iA jnhF jnhL (own_p jnhF jnhL hc10)).2.2.2.1) hZ hw19 hw2 (by decide) (by decide)) q14a q14c (g := (mkF m 253 #[.val (.int iA), .val (.int iF), .val (.int iL), .val (.int iM), .val (.ref b5), .val (.double (FP.i2d iA)), .second, .val (.int (iF &&& (65535 : Int32))), .val (.int (iL &&& (65535 : Int32))), .val (.int ((iL &&& (65535 : Int32)) + (iM &&& (65535 : Int32)))), .val (.double (FP.i2d (iL &&& (65535 : Int32)))), .second, .val (.double (4612136378390124954 : UInt64)), .second, .val (.int (1 : Int32)), .val (.double (Fl.scf (FP.i2d iA) (iF &&& (65535 : Int32)) (FP.i2d (iL &&& (65535 : Int32))))), .second] [(.double (FP.dmul (4611686018427387904 : UInt64) (FP.i2d (iL &&& (65535 : Int32))))), (.int ((2 : Int32) * (iF &&& (65535 : Int32)))), (.double (FP.i2d iA)), (.ref b5)])) rfl (by rw [hml]; rfl) (Steps.refl _) (argsL := [(.double (FP.i2d iA)), (.int ((2 : Int32) * (iF &&& (65535 : Int32)))), (.double (FP.dmul (4611686018427387904 : UInt64) (FP.i2d (iL &&& (65535 : Int32)))))]) (rest := []) (lenOf pd_1 rfl) rfl (by show 2 * 0 + _ ≤ _; exact Nat.le_of_eq rfl) (hb hby at_253) (fun _ _ => ⟨rfl, e13, (by decide : 1 + 0 ≤ _), (by decide : 2 + 0 ≤ _)⟩)
    dsimp only [Pt.U, Pt.locs, Pt.cells, Pt.slots] at X14 l14 y14 z14 st14 hQ14
    subst l14 y14 z14
    obtain ⟨rfl, rfl, e14⟩ := hQ14
    try replace X14 := own_nil X14
    refine Go.by' (fun t k => st14.trans k) ?_
    show Go p.tables e below Pf (T14.setTop (mkF m 256 #[.val (.int iA), .val (.int iF), .val (.int iL), .val (.int iM), .val (.ref b5), .val (.double (FP.i2d iA)), .second, .val (.int (iF &&& (65535 : Int32))), .val (.int (iL &&& (65535 : Int32))), .val (.int ((iL &&& (65535 : Int32)) + (iM &&& (65535 : Int32)))), .val (.double (FP.i2d (iL &&& (65535 : Int32)))), .second, .val (.double (4612136378390124954 : UInt64)), .second, .val (.int (1 : Int32)), .val (.double (Fl.scf (FP.i2d iA) (iF &&& (65535 : Int32)) (FP.i2d (iL &&& (65535 : Int32))))), .second] [(.double (Fl.scf (FP.i2d iA) ((2 : Int32) * (iF &&& (65535 : Int32))) (FP.dmul (4611686018427387904 : UInt64) (FP.i2d (iL &&& (65535 : Int32))))))]))
    refine Go.by' (fun t k => (XS.dload X14.here hx rfl (hb hby at_256) rfl (XS.dcmpS X14.here hx rfl (hb hby at_258) rfl rfl (XS.ifNo X14.here hx rfl (hb hby at_259) rfl ((if0 _ _).trans (teq (by rw [Fl.e7 iA jnhF jnhL (own_p jnhF jnhL hc10)]; decide)).2) (XS.iconst X14.here hx rfl (hb hby at_262) (XS.goto X14.here hx rfl (pc0 := 263) (pc' := 267) rfl (hb hby at_263) (by decide) (by decide) (XS.istore X14.here hx rfl (hb hby at_267) rfl (l' := #[.val (.int iA), .val (.int iF), .val (.int iL), .val (.int iM), .val (.ref b5), .val (.double (FP.i2d iA)), .second, .val (.int (iF &&& (65535 : Int32))), .val (.int (iL &&& (65535 : Int32))), .val (.int ((iL &&& (65535 : Int32)) + (iM &&& (65535 : Int32)))), .val (.double (FP.i2d (iL &&& (65535 : Int32)))), .second, .val (.double (4612136378390124954 : UInt64)), .second, .val (.int (1 : Int32)), .val (.double (Fl.scf (FP.i2d iA) (iF &&& (65535 : Int32)) (FP.i2d (iL &&& (65535 : Int32))))), .second]) rfl k))))))) ?_
    show Go p.tables e below Pf (T14.setTop (mkF m 269 #[.val (.int iA), .val (.int iF), .val (.int iL), .val (.int iM), .val (.ref b5), .val (.double (FP.i2d iA)), .second, .val (.int (iF &&& (65535 : Int32))), .val (.int (iL &&& (65535 : Int32))), .val (.int ((iL &&& (65535 : Int32)) + (iM &&& (65535 : Int32)))), .val (.double (FP.i2d (iL &&& (65535 : Int32)))), .second, .val (.double (4612136378390124954 : UInt64)), .second, .val (.int (1 : Int32)), .val (.double (Fl.scf (FP.i2d iA) (iF &&& (65535 : Int32)) (FP.i2d (iL &&& (65535 : Int32))))), .second] []))
    refine Go.by' (fun t k => (XS.iload X14.here hx rfl (hb hby at_269) rfl k)) ?_
    show Go p.tables e below Pf (T14.setTop (mkF m 271 #[.val (.int iA), .val (.int iF), .val (.int iL), .val (.int iM), .val (.ref b5), .val (.double (FP.i2d iA)), .second, .val (.int (iF &&& (65535 : Int32))), .val (.int (iL &&& (65535 : Int32))), .val (.int ((iL &&& (65535 : Int32)) + (iM &&& (65535 : Int32)))), .val (.double (FP.i2d (iL &&& (65535 : Int32)))), .second, .val (.double (4612136378390124954 : UInt64)), .second, .val (.int (1 : Int32)), .val (.double (Fl.scf (FP.i2d iA) (iF &&& (65535 : Int32)) (FP.i2d (iL &&& (65535 : Int32))))), .second] [(.int (iF &&& (65535 : Int32)))]))
    by_cases hc15 : (0 : Int32) < (iF &&& (65535 : Int32))
    · refine Go.by' (fun t k => (XS.ifNo X14.here hx rfl (hb hby at_271) rfl ((if0 _ _).trans (tlt hc15).2.2.2) (XS.iloadN X14.here hx rfl (hb hby at_274) rfl k))) ?_
      show Go p.tables e below Pf (T14.setTop (mkF m 275 #[.val (.int iA), .val (.int iF), .val (.int iL), .val (.int iM), .val (.ref b5), .val (.double (FP.i2d iA)), .second, .val (.int (iF &&& (65535 : Int32))), .val (.int (iL &&& (65535 : Int32))), .val (.int ((iL &&& (65535 : Int32)) + (iM &&& (65535 : Int32)))), .val (.double (FP.i2d (iL &&& (65535 : Int32)))), .second, .val (.double (4612136378390124954 : UInt64)), .second, .val (.int (1 : Int32)), .val (.double (Fl.scf (FP.i2d iA) (iF &&& (65535 : Int32)) (FP.i2d (iL &&& (65535 : Int32))))), .second] [(.int iA)]))
      by_cases hc16 : (0 : Int32) < iA
      · refine Go.by' (fun t k => (XS.ifNo X14.here hx rfl (hb hby at_275) rfl ((if0 _ _).trans (tlt hc16).2.2.2) (XS.iload X14.here hx rfl (hb hby at_278) rfl (XS.ifNo X14.here hx rfl (hb hby at_280) rfl ((if0 _ _).trans (feq (by decide)).1) (XS.dload X14.here hx rfl (hb hby at_283) rfl (XS.dconst0 X14.here hx rfl (hb hby at_285) rfl (XS.dcmpS X14.here hx rfl (hb hby at_286) rfl rfl k))))))) ?_
        show Go p.tables e below Pf (T14.setTop (mkF m 287 #[.val (.int iA), .val (.int iF), .val (.int iL), .val (.int iM), .val (.ref b5), .val (.double (FP.i2d iA)), .second, .val (.int (iF &&& (65535 : Int32))), .val (.int (iL &&& (65535 : Int32))), .val (.int ((iL &&& (65535 : Int32)) + (iM &&& (65535 : Int32)))), .val (.double (FP.i2d (iL &&& (65535 : Int32)))), .second, .val (.double (4612136378390124954 : UInt64)), .second, .val (.int (1 : Int32)), .val (.double (Fl.scf (FP.i2d iA) (iF &&& (65535 : Int32)) (FP.i2d (iL &&& (65535 : Int32))))), .second] [(.int (cmpValue (FP.dcmp (Fl.scf (FP.i2d iA) (iF &&& (65535 : Int32)) (FP.i2d (iL &&& (65535 : Int32)))) FP.dconst0) .l))]))
        refine Go.by' (fun t k => (XS.ifNo X14.here hx rfl (hb hby at_287) rfl ((if0 _ _).trans (tlt (by rw [(Fl.e8 iA (own_lt hc16) jnhF (own_lt hc15) jnhL (own_p jnhF jnhL hc10)).1]; decide)).2.2.2) (XS.dload X14.here hx rfl (hb hby at_290) rfl (X14.ldc2DoubleC hx hown (mvT hZ hw22) (g := (mkF m 292 #[.val (.int iA), .val (.int iF), .val (.int iL), .val (.int iM), .val (.ref b5), .val (.double (FP.i2d iA)), .second, .val (.int (iF &&& (65535 : Int32))), .val (.int (iL &&& (65535 : Int32))), .val (.int ((iL &&& (65535 : Int32)) + (iM &&& (65535 : Int32)))), .val (.double (FP.i2d (iL &&& (65535 : Int32)))), .second, .val (.double (4612136378390124954 : UInt64)), .second, .val (.int (1 : Int32)), .val (.double (Fl.scf (FP.i2d iA) (iF &&& (65535 : Int32)) (FP.i2d (iL &&& (65535 : Int32))))), .second] [(.double (Fl.scf (FP.i2d iA) (iF &&& (65535 : Int32)) (FP.i2d (iL &&& (65535 : Int32)))))])) rfl (hb hby at_292) t (XS.dload X14.here hx rfl (hb hby at_295) rfl (XS.dmulS X14.here hx rfl (hb hby at_297) rfl (Fl.dv_3a iA).nn rfl (XS.dcmpS X14.here hx rfl (hb hby at_298) rfl rfl k))))))) ?_
        show Go p.tables e below Pf (T14.setTop (mkF m 299 #[.val (.int iA), .val (.int iF), .val (.int iL), .val (.int iM), .val (.ref b5), .val (.double (FP.i2d iA)), .second, .val (.int (iF &&& (65535 : Int32))), .val (.int (iL &&& (65535 : Int32))), .val (.int ((iL &&& (65535 : Int32)) + (iM &&& (65535 : Int32)))), .val (.double (FP.i2d (iL &&& (65535 : Int32)))), .second, .val (.double (4612136378390124954 : UInt64)), .second, .val (.int (1 : Int32)), .val (.double (Fl.scf (FP.i2d iA) (iF &&& (65535 : Int32)) (FP.i2d (iL &&& (65535 : Int32))))), .second] [(.int (cmpValue (FP.dcmp (Fl.scf (FP.i2d iA) (iF &&& (65535 : Int32)) (FP.i2d (iL &&& (65535 : Int32)))) (FP.dmul (4613937818241073152 : UInt64) (FP.i2d iA))) .g))]))
        refine Go.by' (fun t k => (XS.ifNo X14.here hx rfl (hb hby at_299) rfl ((if0 _ _).trans (tlt (by rw [(Fl.e8 iA (own_lt hc16) jnhF (own_lt hc15) jnhL (own_p jnhF jnhL hc10)).2]; decide)).2.1) (XS.aload X14.here hx rfl (hb hby at_302) rfl rfl (XS.dload X14.here hx rfl (hb hby at_304) rfl (XS.iload X14.here hx rfl (hb hby at_306) rfl (XS.iload X14.here hx rfl (hb hby at_308) rfl (XS.i2dS X14.here hx rfl (hb hby at_310) rfl rfl k))))))) ?_
        show Go p.tables e below Pf (T14.setTop (mkF m 311 #[.val (.int iA), .val (.int iF), .val (.int iL), .val (.int iM), .val (.ref b5), .val (.double (FP.i2d iA)), .second, .val (.int (iF &&& (65535 : Int32))), .val (.int (iL &&& (65535 : Int32))), .val (.int ((iL &&& (65535 : Int32)) + (iM &&& (65535 : Int32)))), .val (.double (FP.i2d (iL &&& (65535 : Int32)))), .second, .val (.double (4612136378390124954 : UInt64)), .second, .val (.int (1 : Int32)), .val (.double (Fl.scf (FP.i2d iA) (iF &&& (65535 : Int32)) (FP.i2d (iL &&& (65535 : Int32))))), .second] [(.double (FP.i2d ((iL &&& (65535 : Int32)) + (iM &&& (65535 : Int32))))), (.int (iF &&& (65535 : Int32))), (.double (FP.i2d iA)), (.ref b5)]))
        obtain ⟨cq17, kq17, q17a, q17b, q17c⟩ := isOf hZ e14 f6_0
        obtain ⟨_, _, ⟨T17, L17, k17, n17⟩, -, X17, ⟨Lc17, hQ17, l17, y17, z17⟩, st17⟩ := X14.virtualBack hx (y := (⟨"com/example/kull/kull/core/search/Bm25", "score", "(DID)D"⟩ : MethodName)) (z := (⟨"com/example/kull/kull/core/search/Bm25", "score", "(DID)D"⟩ : MethodName)) hown (mvT hZ hw15) (mvT hZ hw16) (notFace_of_selects (args := #[]) (mvT hZ hw18)) (mvT hZ hw18) (mvT hZ hw17) (by decide) (backOf (W := 0) (rmSc l Z a0 hw []  b5 ((FP.i2d iA)) ((iF &&& (65535 : Int32))) ((FP.i2d ((iL &&& (65535 : Int32)) + (iM &&& (65535 : Int32))))) T6.heap n0 O6 (Fl.k8 iA jnhF jnG.1 (Int.lt_of_lt_of_le (own_p jnhF jnhL hc10) (Int.add_le_add_left jnG.2 _))).1 (Fl.k8 iA jnhF jnG.1 (Int.lt_of_lt_of_le (own_p jnhF jnhL hc10) (Int.add_le_add_left jnG.2 _))).2.1 (Fl.k8 iA jnhF jnG.1 (Int.lt_of_lt_of_le (own_p jnhF jnhL hc10) (Int.add_le_add_left jnG.2 _))).2.2.1 (Fl.k8 iA jnhF jnG.1 (Int.lt_of_lt_of_le (own_p jnhF jnhL hc10) (Int.add_le_add_left jnG.2 _))).2.2.2.1) hZ hw19 hw2 (by decide) (by decide)) q17a q17c (g := (mkF m 311 #[.val (.int iA), .val (.int iF), .val (.int iL), .val (.int iM), .val (.ref b5), .val (.double (FP.i2d iA)), .second, .val (.int (iF &&& (65535 : Int32))), .val (.int (iL &&& (65535 : Int32))), .val (.int ((iL &&& (65535 : Int32)) + (iM &&& (65535 : Int32)))), .val (.double (FP.i2d (iL &&& (65535 : Int32)))), .second, .val (.double (4612136378390124954 : UInt64)), .second, .val (.int (1 : Int32)), .val (.double (Fl.scf (FP.i2d iA) (iF &&& (65535 : Int32)) (FP.i2d (iL &&& (65535 : Int32))))), .second] [(.double (FP.i2d ((iL &&& (65535 : Int32)) + (iM &&& (65535 : Int32))))), (.int (iF &&& (65535 : Int32))), (.double (FP.i2d iA)), (.ref b5)])) rfl (by rw [hml]; rfl) (Steps.refl _) (argsL := [(.double (FP.i2d iA)), (.int (iF &&& (65535 : Int32))), (.double (FP.i2d ((iL &&& (65535 : Int32)) + (iM &&& (65535 : Int32)))))]) (rest := []) (lenOf pd_1 rfl) rfl (by show 2 * 0 + _ ≤ _; exact Nat.le_of_eq rfl) (hb hby at_311) (fun _ _ => ⟨rfl, e14, (by decide : 1 + 0 ≤ _), (by decide : 2 + 0 ≤ _)⟩)
        dsimp only [Pt.U, Pt.locs, Pt.cells, Pt.slots] at X17 l17 y17 z17 st17 hQ17
        subst l17 y17 z17
        obtain ⟨rfl, rfl, e17⟩ := hQ17
        try replace X17 := own_nil X17
        refine Go.by' (fun t k => st17.trans k) ?_
        show Go p.tables e below Pf (T17.setTop (mkF m 314 #[.val (.int iA), .val (.int iF), .val (.int iL), .val (.int iM), .val (.ref b5), .val (.double (FP.i2d iA)), .second, .val (.int (iF &&& (65535 : Int32))), .val (.int (iL &&& (65535 : Int32))), .val (.int ((iL &&& (65535 : Int32)) + (iM &&& (65535 : Int32)))), .val (.double (FP.i2d (iL &&& (65535 : Int32)))), .second, .val (.double (4612136378390124954 : UInt64)), .second, .val (.int (1 : Int32)), .val (.double (Fl.scf (FP.i2d iA) (iF &&& (65535 : Int32)) (FP.i2d (iL &&& (65535 : Int32))))), .second] [(.double (Fl.scf (FP.i2d iA) (iF &&& (65535 : Int32)) (FP.i2d ((iL &&& (65535 : Int32)) + (iM &&& (65535 : Int32))))))]))
        refine Go.by' (fun t k => (XS.dload X17.here hx rfl (hb hby at_314) rfl (XS.dcmpS X17.here hx rfl (hb hby at_316) rfl rfl (XS.ifNo X17.here hx rfl (hb hby at_317) rfl ((if0 _ _).trans (flt (by rcases Fl.e9 iA (own_lt hc16) jnhF jnhL (own_p jnhF jnhL hc10) jnG.1 jnG.2 with z | z <;> (rw [z]; decide))).2.2.1) (XS.iconst X17.here hx rfl (hb hby at_320) (XS.goto X17.here hx rfl (pc0 := 321) (pc' := 325) rfl (hb hby at_321) (by decide) (by decide) (XS.istore X17.here hx rfl (hb hby at_325) rfl (l' := #[.val (.int iA), .val (.int iF), .val (.int iL), .val (.int iM), .val (.ref b5), .val (.double (FP.i2d iA)), .second, .val (.int (iF &&& (65535 : Int32))), .val (.int (iL &&& (65535 : Int32))), .val (.int ((iL &&& (65535 : Int32)) + (iM &&& (65535 : Int32)))), .val (.double (FP.i2d (iL &&& (65535 : Int32)))), .second, .val (.double (4612136378390124954 : UInt64)), .second, .val (.int (1 : Int32)), .val (.double (Fl.scf (FP.i2d iA) (iF &&& (65535 : Int32)) (FP.i2d (iL &&& (65535 : Int32))))), .second]) rfl k))))))) ?_
        show Go p.tables e below Pf (T17.setTop (mkF m 327 #[.val (.int iA), .val (.int iF), .val (.int iL), .val (.int iM), .val (.ref b5), .val (.double (FP.i2d iA)), .second, .val (.int (iF &&& (65535 : Int32))), .val (.int (iL &&& (65535 : Int32))), .val (.int ((iL &&& (65535 : Int32)) + (iM &&& (65535 : Int32)))), .val (.double (FP.i2d (iL &&& (65535 : Int32)))), .second, .val (.double (4612136378390124954 : UInt64)), .second, .val (.int (1 : Int32)), .val (.double (Fl.scf (FP.i2d iA) (iF &&& (65535 : Int32)) (FP.i2d (iL &&& (65535 : Int32))))), .second] []))
        refine Go.by' (fun t k => (XS.iloadN X17.here hx rfl (hb hby at_327) rfl k)) ?_
        show Go p.tables e below Pf (T17.setTop (mkF m 328 #[.val (.int iA), .val (.int iF), .val (.int iL), .val (.int iM), .val (.ref b5), .val (.double (FP.i2d iA)), .second, .val (.int (iF &&& (65535 : Int32))), .val (.int (iL &&& (65535 : Int32))), .val (.int ((iL &&& (65535 : Int32)) + (iM &&& (65535 : Int32)))), .val (.double (FP.i2d (iL &&& (65535 : Int32)))), .second, .val (.double (4612136378390124954 : UInt64)), .second, .val (.int (1 : Int32)), .val (.double (Fl.scf (FP.i2d iA) (iF &&& (65535 : Int32)) (FP.i2d (iL &&& (65535 : Int32))))), .second] [(.int iA)]))
        by_cases hc18 : iA = (0 : Int32)
        · refine Go.by' (fun t k => (XS.ifYes X17.here hx rfl (pc0 := 328) (pc' := 336) rfl (hb hby at_328) rfl ((if0 _ _).trans (teq hc18).1) (by decide) (by decide) (XS.iload X17.here hx rfl (hb hby at_336) rfl (XS.ifNo X17.here hx rfl (hb hby at_338) rfl ((if0 _ _).trans (feq (by decide)).1) (XS.dload X17.here hx rfl (hb hby at_341) rfl (XS.dconst0 X17.here hx rfl (hb hby at_343) rfl (XS.dcmpS X17.here hx rfl (hb hby at_344) rfl rfl k))))))) ?_
          show Go p.tables e below Pf (T17.setTop (mkF m 345 #[.val (.int iA), .val (.int iF), .val (.int iL), .val (.int iM), .val (.ref b5), .val (.double (FP.i2d iA)), .second, .val (.int (iF &&& (65535 : Int32))), .val (.int (iL &&& (65535 : Int32))), .val (.int ((iL &&& (65535 : Int32)) + (iM &&& (65535 : Int32)))), .val (.double (FP.i2d (iL &&& (65535 : Int32)))), .second, .val (.double (4612136378390124954 : UInt64)), .second, .val (.int (1 : Int32)), .val (.double (Fl.scf (FP.i2d iA) (iF &&& (65535 : Int32)) (FP.i2d (iL &&& (65535 : Int32))))), .second] [(.int (cmpValue (FP.dcmp (Fl.scf (FP.i2d iA) (iF &&& (65535 : Int32)) (FP.i2d (iL &&& (65535 : Int32)))) FP.dconst0) .l))]))
          refine Go.by' (fun t k => (XS.ifNo X17.here hx rfl (hb hby at_345) rfl ((if0 _ _).trans (teq (by rw [Fl.e10 iA jnhF jnhL (own_p jnhF jnhL hc10) (Or.inl hc18)]; decide)).2) (XS.iconst X17.here hx rfl (hb hby at_348) (XS.goto X17.here hx rfl (pc0 := 349) (pc' := 353) rfl (hb hby at_349) (by decide) (by decide) (XS.istore X17.here hx rfl (hb hby at_353) rfl (l' := #[.val (.int iA), .val (.int iF), .val (.int iL), .val (.int iM), .val (.ref b5), .val (.double (FP.i2d iA)), .second, .val (.int (iF &&& (65535 : Int32))), .val (.int (iL &&& (65535 : Int32))), .val (.int ((iL &&& (65535 : Int32)) + (iM &&& (65535 : Int32)))), .val (.double (FP.i2d (iL &&& (65535 : Int32)))), .second, .val (.double (4612136378390124954 : UInt64)), .second, .val (.int (1 : Int32)), .val (.double (Fl.scf (FP.i2d iA) (iF &&& (65535 : Int32)) (FP.i2d (iL &&& (65535 : Int32))))), .second]) rfl (XS.iload X17.here hx rfl (hb hby at_355) rfl k)))))) ?_
          show Go p.tables e below Pf (T17.setTop (mkF m 357 #[.val (.int iA), .val (.int iF), .val (.int iL), .val (.int iM), .val (.ref b5), .val (.double (FP.i2d iA)), .second, .val (.int (iF &&& (65535 : Int32))), .val (.int (iL &&& (65535 : Int32))), .val (.int ((iL &&& (65535 : Int32)) + (iM &&& (65535 : Int32)))), .val (.double (FP.i2d (iL &&& (65535 : Int32)))), .second, .val (.double (4612136378390124954 : UInt64)), .second, .val (.int (1 : Int32)), .val (.double (Fl.scf (FP.i2d iA) (iF &&& (65535 : Int32)) (FP.i2d (iL &&& (65535 : Int32))))), .second] [(.int (1 : Int32))]))
          rw [hPf]
          exact Go.retI' X17 hx hret hlk (by simp) rfl (hb hby at_357) (by decide) (by decide) ⟨rfl, N6, (by rw [e17]; exact KC6)⟩
        · refine Go.by' (fun t k => (XS.ifNo X17.here hx rfl (hb hby at_328) rfl ((if0 _ _).trans (feq hc18).1) (XS.iload X17.here hx rfl (hb hby at_331) rfl k))) ?_
          show Go p.tables e below Pf (T17.setTop (mkF m 333 #[.val (.int iA), .val (.int iF), .val (.int iL), .val (.int iM), .val (.ref b5), .val (.double (FP.i2d iA)), .second, .val (.int (iF &&& (65535 : Int32))), .val (.int (iL &&& (65535 : Int32))), .val (.int ((iL &&& (65535 : Int32)) + (iM &&& (65535 : Int32)))), .val (.double (FP.i2d (iL &&& (65535 : Int32)))), .second, .val (.double (4612136378390124954 : UInt64)), .second, .val (.int (1 : Int32)), .val (.double (Fl.scf (FP.i2d iA) (iF &&& (65535 : Int32)) (FP.i2d (iL &&& (65535 : Int32))))), .second] [(.int (iF &&& (65535 : Int32)))]))
          by_cases hc19 : (iF &&& (65535 : Int32)) = (0 : Int32)
          · refine Go.by' (fun t k => (XS.ifNo X17.here hx rfl (hb hby at_333) rfl ((if0 _ _).trans (teq hc19).2) (XS.iload X17.here hx rfl (hb hby at_336) rfl (XS.ifNo X17.here hx rfl (hb hby at_338) rfl ((if0 _ _).trans (feq (by decide)).1) (XS.dload X17.here hx rfl (hb hby at_341) rfl (XS.dconst0 X17.here hx rfl (hb hby at_343) rfl (XS.dcmpS X17.here hx rfl (hb hby at_344) rfl rfl k))))))) ?_
            show Go p.tables e below Pf (T17.setTop (mkF m 345 #[.val (.int iA), .val (.int iF), .val (.int iL), .val (.int iM), .val (.ref b5), .val (.double (FP.i2d iA)), .second, .val (.int (iF &&& (65535 : Int32))), .val (.int (iL &&& (65535 : Int32))), .val (.int ((iL &&& (65535 : Int32)) + (iM &&& (65535 : Int32)))), .val (.double (FP.i2d (iL &&& (65535 : Int32)))), .second, .val (.double (4612136378390124954 : UInt64)), .second, .val (.int (1 : Int32)), .val (.double (Fl.scf (FP.i2d iA) (iF &&& (65535 : Int32)) (FP.i2d (iL &&& (65535 : Int32))))), .second] [(.int (cmpValue (FP.dcmp (Fl.scf (FP.i2d iA) (iF &&& (65535 : Int32)) (FP.i2d (iL &&& (65535 : Int32)))) FP.dconst0) .l))]))
            refine Go.by' (fun t k => (XS.ifNo X17.here hx rfl (hb hby at_345) rfl ((if0 _ _).trans (teq (by rw [Fl.e10 iA jnhF jnhL (own_p jnhF jnhL hc10) (Or.inr hc19)]; decide)).2) (XS.iconst X17.here hx rfl (hb hby at_348) (XS.goto X17.here hx rfl (pc0 := 349) (pc' := 353) rfl (hb hby at_349) (by decide) (by decide) (XS.istore X17.here hx rfl (hb hby at_353) rfl (l' := #[.val (.int iA), .val (.int iF), .val (.int iL), .val (.int iM), .val (.ref b5), .val (.double (FP.i2d iA)), .second, .val (.int (iF &&& (65535 : Int32))), .val (.int (iL &&& (65535 : Int32))), .val (.int ((iL &&& (65535 : Int32)) + (iM &&& (65535 : Int32)))), .val (.double (FP.i2d (iL &&& (65535 : Int32)))), .second, .val (.double (4612136378390124954 : UInt64)), .second, .val (.int (1 : Int32)), .val (.double (Fl.scf (FP.i2d iA) (iF &&& (65535 : Int32)) (FP.i2d (iL &&& (65535 : Int32))))), .second]) rfl (XS.iload X17.here hx rfl (hb hby at_355) rfl k)))))) ?_
            show Go p.tables e below Pf (T17.setTop (mkF m 357 #[.val (.int iA), .val (.int iF), .val (.int iL), .val (.int iM), .val (.ref b5), .val (.double (FP.i2d iA)), .second, .val (.int (iF &&& (65535 : Int32))), .val (.int (iL &&& (65535 : Int32))), .val (.int ((iL &&& (65535 : Int32)) + (iM &&& (65535 : Int32)))), .val (.double (FP.i2d (iL &&& (65535 : Int32)))), .second, .val (.double (4612136378390124954 : UInt64)), .second, .val (.int (1 : Int32)), .val (.double (Fl.scf (FP.i2d iA) (iF &&& (65535 : Int32)) (FP.i2d (iL &&& (65535 : Int32))))), .second] [(.int (1 : Int32))]))
            rw [hPf]
            exact Go.retI' X17 hx hret hlk (by simp) rfl (hb hby at_357) (by decide) (by decide) ⟨rfl, N6, (by rw [e17]; exact KC6)⟩
          · refine Go.by' (fun t k => (XS.ifYes X17.here hx rfl (pc0 := 333) (pc' := 355) rfl (hb hby at_333) rfl ((if0 _ _).trans (feq hc19).2) (by decide) (by decide) (XS.iload X17.here hx rfl (hb hby at_355) rfl k))) ?_
            show Go p.tables e below Pf (T17.setTop (mkF m 357 #[.val (.int iA), .val (.int iF), .val (.int iL), .val (.int iM), .val (.ref b5), .val (.double (FP.i2d iA)), .second, .val (.int (iF &&& (65535 : Int32))), .val (.int (iL &&& (65535 : Int32))), .val (.int ((iL &&& (65535 : Int32)) + (iM &&& (65535 : Int32)))), .val (.double (FP.i2d (iL &&& (65535 : Int32)))), .second, .val (.double (4612136378390124954 : UInt64)), .second, .val (.int (1 : Int32)), .val (.double (Fl.scf (FP.i2d iA) (iF &&& (65535 : Int32)) (FP.i2d (iL &&& (65535 : Int32))))), .second] [(.int (1 : Int32))]))
            rw [hPf]
            exact Go.retI' X17 hx hret hlk (by simp) rfl (hb hby at_357) (by decide) (by decide) ⟨rfl, N6, (by rw [e17]; exact KC6)⟩
      · refine Go.by' (fun t k => (XS.ifYes X14.here hx rfl (pc0 := 275) (pc' := 327) rfl (hb hby at_275) rfl ((if0 _ _).trans (flt hc16).2.2.2) (by decide) (by decide) (XS.iloadN X14.here hx rfl (hb hby at_327) rfl k))) ?_
        show Go p.tables e below Pf (T14.setTop (mkF m 328 #[.val (.int iA), .val (.int iF), .val (.int iL), .val (.int iM), .val (.ref b5), .val (.double (FP.i2d iA)), .second, .val (.int (iF &&& (65535 : Int32))), .val (.int (iL &&& (65535 : Int32))), .val (.int ((iL &&& (65535 : Int32)) + (iM &&& (65535 : Int32)))), .val (.double (FP.i2d (iL &&& (65535 : Int32)))), .second, .val (.double (4612136378390124954 : UInt64)), .second, .val (.int (1 : Int32)), .val (.double (Fl.scf (FP.i2d iA) (iF &&& (65535 : Int32)) (FP.i2d (iL &&& (65535 : Int32))))), .second] [(.int iA)]))
        by_cases hc20 : iA = (0 : Int32)
        · refine Go.by' (fun t k => (XS.ifYes X14.here hx rfl (pc0 := 328) (pc' := 336) rfl (hb hby at_328) rfl ((if0 _ _).trans (teq hc20).1) (by decide) (by decide) (XS.iload X14.here hx rfl (hb hby at_336) rfl (XS.ifNo X14.here hx rfl (hb hby at_338) rfl ((if0 _ _).trans (feq (by decide)).1) (XS.dload X14.here hx rfl (hb hby at_341) rfl (XS.dconst0 X14.here hx rfl (hb hby at_343) rfl (XS.dcmpS X14.here hx rfl (hb hby at_344) rfl rfl k))))))) ?_
          show Go p.tables e below Pf (T14.setTop (mkF m 345 #[.val (.int iA), .val (.int iF), .val (.int iL), .val (.int iM), .val (.ref b5), .val (.double (FP.i2d iA)), .second, .val (.int (iF &&& (65535 : Int32))), .val (.int (iL &&& (65535 : Int32))), .val (.int ((iL &&& (65535 : Int32)) + (iM &&& (65535 : Int32)))), .val (.double (FP.i2d (iL &&& (65535 : Int32)))), .second, .val (.double (4612136378390124954 : UInt64)), .second, .val (.int (1 : Int32)), .val (.double (Fl.scf (FP.i2d iA) (iF &&& (65535 : Int32)) (FP.i2d (iL &&& (65535 : Int32))))), .second] [(.int (cmpValue (FP.dcmp (Fl.scf (FP.i2d iA) (iF &&& (65535 : Int32)) (FP.i2d (iL &&& (65535 : Int32)))) FP.dconst0) .l))]))
          refine Go.by' (fun t k => (XS.ifNo X14.here hx rfl (hb hby at_345) rfl ((if0 _ _).trans (teq (by rw [Fl.e10 iA jnhF jnhL (own_p jnhF jnhL hc10) (Or.inl hc20)]; decide)).2) (XS.iconst X14.here hx rfl (hb hby at_348) (XS.goto X14.here hx rfl (pc0 := 349) (pc' := 353) rfl (hb hby at_349) (by decide) (by decide) (XS.istore X14.here hx rfl (hb hby at_353) rfl (l' := #[.val (.int iA), .val (.int iF), .val (.int iL), .val (.int iM), .val (.ref b5), .val (.double (FP.i2d iA)), .second, .val (.int (iF &&& (65535 : Int32))), .val (.int (iL &&& (65535 : Int32))), .val (.int ((iL &&& (65535 : Int32)) + (iM &&& (65535 : Int32)))), .val (.double (FP.i2d (iL &&& (65535 : Int32)))), .second, .val (.double (4612136378390124954 : UInt64)), .second, .val (.int (1 : Int32)), .val (.double (Fl.scf (FP.i2d iA) (iF &&& (65535 : Int32)) (FP.i2d (iL &&& (65535 : Int32))))), .second]) rfl (XS.iload X14.here hx rfl (hb hby at_355) rfl k)))))) ?_
          show Go p.tables e below Pf (T14.setTop (mkF m 357 #[.val (.int iA), .val (.int iF), .val (.int iL), .val (.int iM), .val (.ref b5), .val (.double (FP.i2d iA)), .second, .val (.int (iF &&& (65535 : Int32))), .val (.int (iL &&& (65535 : Int32))), .val (.int ((iL &&& (65535 : Int32)) + (iM &&& (65535 : Int32)))), .val (.double (FP.i2d (iL &&& (65535 : Int32)))), .second, .val (.double (4612136378390124954 : UInt64)), .second, .val (.int (1 : Int32)), .val (.double (Fl.scf (FP.i2d iA) (iF &&& (65535 : Int32)) (FP.i2d (iL &&& (65535 : Int32))))), .second] [(.int (1 : Int32))]))
          rw [hPf]
          exact Go.retI' X14 hx hret hlk (by simp) rfl (hb hby at_357) (by decide) (by decide) ⟨rfl, N6, (by rw [e14]; exact KC6)⟩
        · refine Go.by' (fun t k => (XS.ifNo X14.here hx rfl (hb hby at_328) rfl ((if0 _ _).trans (feq hc20).1) (XS.iload X14.here hx rfl (hb hby at_331) rfl k))) ?_
          show Go p.tables e below Pf (T14.setTop (mkF m 333 #[.val (.int iA), .val (.int iF), .val (.int iL), .val (.int iM), .val (.ref b5), .val (.double (FP.i2d iA)), .second, .val (.int (iF &&& (65535 : Int32))), .val (.int (iL &&& (65535 : Int32))), .val (.int ((iL &&& (65535 : Int32)) + (iM &&& (65535 : Int32)))), .val (.double (FP.i2d (iL &&& (65535 : Int32)))), .second, .val (.double (4612136378390124954 : UInt64)), .second, .val (.int (1 : Int32)), .val (.double (Fl.scf (FP.i2d iA) (iF &&& (65535 : Int32)) (FP.i2d (iL &&& (65535 : Int32))))), .second] [(.int (iF &&& (65535 : Int32)))]))
          by_cases hc21 : (iF &&& (65535 : Int32)) = (0 : Int32)
          · refine Go.by' (fun t k => (XS.ifNo X14.here hx rfl (hb hby at_333) rfl ((if0 _ _).trans (teq hc21).2) (XS.iload X14.here hx rfl (hb hby at_336) rfl (XS.ifNo X14.here hx rfl (hb hby at_338) rfl ((if0 _ _).trans (feq (by decide)).1) (XS.dload X14.here hx rfl (hb hby at_341) rfl (XS.dconst0 X14.here hx rfl (hb hby at_343) rfl (XS.dcmpS X14.here hx rfl (hb hby at_344) rfl rfl k))))))) ?_
            show Go p.tables e below Pf (T14.setTop (mkF m 345 #[.val (.int iA), .val (.int iF), .val (.int iL), .val (.int iM), .val (.ref b5), .val (.double (FP.i2d iA)), .second, .val (.int (iF &&& (65535 : Int32))), .val (.int (iL &&& (65535 : Int32))), .val (.int ((iL &&& (65535 : Int32)) + (iM &&& (65535 : Int32)))), .val (.double (FP.i2d (iL &&& (65535 : Int32)))), .second, .val (.double (4612136378390124954 : UInt64)), .second, .val (.int (1 : Int32)), .val (.double (Fl.scf (FP.i2d iA) (iF &&& (65535 : Int32)) (FP.i2d (iL &&& (65535 : Int32))))), .second] [(.int (cmpValue (FP.dcmp (Fl.scf (FP.i2d iA) (iF &&& (65535 : Int32)) (FP.i2d (iL &&& (65535 : Int32)))) FP.dconst0) .l))]))
            refine Go.by' (fun t k => (XS.ifNo X14.here hx rfl (hb hby at_345) rfl ((if0 _ _).trans (teq (by rw [Fl.e10 iA jnhF jnhL (own_p jnhF jnhL hc10) (Or.inr hc21)]; decide)).2) (XS.iconst X14.here hx rfl (hb hby at_348) (XS.goto X14.here hx rfl (pc0 := 349) (pc' := 353) rfl (hb hby at_349) (by decide) (by decide) (XS.istore X14.here hx rfl (hb hby at_353) rfl (l' := #[.val (.int iA), .val (.int iF), .val (.int iL), .val (.int iM), .val (.ref b5), .val (.double (FP.i2d iA)), .second, .val (.int (iF &&& (65535 : Int32))), .val (.int (iL &&& (65535 : Int32))), .val (.int ((iL &&& (65535 : Int32)) + (iM &&& (65535 : Int32)))), .val (.double (FP.i2d (iL &&& (65535 : Int32)))), .second, .val (.double (4612136378390124954 : UInt64)), .second, .val (.int (1 : Int32)), .val (.double (Fl.scf (FP.i2d iA) (iF &&& (65535 : Int32)) (FP.i2d (iL &&& (65535 : Int32))))), .second]) rfl (XS.iload X14.here hx rfl (hb hby at_355) rfl k)))))) ?_
            show Go p.tables e below Pf (T14.setTop (mkF m 357 #[.val (.int iA), .val (.int iF), .val (.int iL), .val (.int iM), .val (.ref b5), .val (.double (FP.i2d iA)), .second, .val (.int (iF &&& (65535 : Int32))), .val (.int (iL &&& (65535 : Int32))), .val (.int ((iL &&& (65535 : Int32)) + (iM &&& (65535 : Int32)))), .val (.double (FP.i2d (iL &&& (65535 : Int32)))), .second, .val (.double (4612136378390124954 : UInt64)), .second, .val (.int (1 : Int32)), .val (.double (Fl.scf (FP.i2d iA) (iF &&& (65535 : Int32)) (FP.i2d (iL &&& (65535 : Int32))))), .second] [(.int (1 : Int32))]))
            rw [hPf]
            exact Go.retI' X14 hx hret hlk (by simp) rfl (hb hby at_357) (by decide) (by decide) ⟨rfl, N6, (by rw [e14]; exact KC6)⟩
          · refine Go.by' (fun t k => (XS.ifYes X14.here hx rfl (pc0 := 333) (pc' := 355) rfl (hb hby at_333) rfl ((if0 _ _).trans (feq hc21).2) (by decide) (by decide) (XS.iload X14.here hx rfl (hb hby at_355) rfl k))) ?_
            show Go p.tables e below Pf (T14.setTop (mkF m 357 #[.val (.int iA), .val (.int iF), .val (.int iL), .val (.int iM), .val (.ref b5), .val (.double (FP.i2d iA)), .second, .val (.int (iF &&& (65535 : Int32))), .val (.int (iL &&& (65535 : Int32))), .val (.int ((iL &&& (65535 : Int32)) + (iM &&& (65535 : Int32)))), .val (.double (FP.i2d (iL &&& (65535 : Int32)))), .second, .val (.double (4612136378390124954 : UInt64)), .second, .val (.int (1 : Int32)), .val (.double (Fl.scf (FP.i2d iA) (iF &&& (65535 : Int32)) (FP.i2d (iL &&& (65535 : Int32))))), .second] [(.int (1 : Int32))]))
            rw [hPf]
            exact Go.retI' X14 hx hret hlk (by simp) rfl (hb hby at_357) (by decide) (by decide) ⟨rfl, N6, (by rw [e14]; exact KC6)⟩
    · refine Go.by' (fun t k => (XS.ifYes X14.here hx rfl (pc0 := 271) (pc' := 327) rfl (hb hby at_271) rfl ((if0 _ _).trans (flt hc15).2.2.2) (by decide) (by decide) (XS.iloadN X14.here hx rfl (hb hby at_327) rfl k))) ?_
      show Go p.tables e below Pf (T14.setTop (mkF m 328 #[.val (.int iA), .val (.int iF), .val (.int iL), .val (.int iM), .val (.ref b5), .val (.double (FP.i2d iA)), .second, .val (.int (iF &&& (65535 : Int32))), .val (.int (iL &&& (65535 : Int32))), .val (.int ((iL &&& (65535 : Int32)) + (iM &&& (65535 : Int32)))), .val (.double (FP.i2d (iL &&& (65535 : Int32)))), .second, .val (.double (4612136378390124954 : UInt64)), .second, .val (.int (1 : Int32)), .val (.double (Fl.scf (FP.i2d iA) (iF &&& (65535 : Int32)) (FP.i2d (iL &&& (65535 : Int32))))), .second] [(.int iA)]))
      by_cases hc22 : iA = (0 : Int32)
      · refine Go.by' (fun t k => (XS.ifYes X14.here hx rfl (pc0 := 328) (pc' := 336) rfl (hb hby at_328) rfl ((if0 _ _).trans (teq hc22).1) (by decide) (by decide) (XS.iload X14.here hx rfl (hb hby at_336) rfl (XS.ifNo X14.here hx rfl (hb hby at_338) rfl ((if0 _ _).trans (feq (by decide)).1) (XS.dload X14.here hx rfl (hb hby at_341) rfl (XS.dconst0 X14.here hx rfl (hb hby at_343) rfl (XS.dcmpS X14.here hx rfl (hb hby at_344) rfl rfl k))))))) ?_
        show Go p.tables e below Pf (T14.setTop (mkF m 345 #[.val (.int iA), .val (.int iF), .val (.int iL), .val (.int iM), .val (.ref b5), .val (.double (FP.i2d iA)), .second, .val (.int (iF &&& (65535 : Int32))), .val (.int (iL &&& (65535 : Int32))), .val (.int ((iL &&& (65535 : Int32)) + (iM &&& (65535 : Int32)))), .val (.double (FP.i2d (iL &&& (65535 : Int32)))), .second, .val (.double (4612136378390124954 : UInt64)), .second, .val (.int (1 : Int32)), .val (.double (Fl.scf (FP.i2d iA) (iF &&& (65535 : Int32)) (FP.i2d (iL &&& (65535 : Int32))))), .second] [(.int (cmpValue (FP.dcmp (Fl.scf (FP.i2d iA) (iF &&& (65535 : Int32)) (FP.i2d (iL &&& (65535 : Int32)))) FP.dconst0) .l))]))
        refine Go.by' (fun t k => (XS.ifNo X14.here hx rfl (hb hby at_345) rfl ((if0 _ _).trans (teq (by rw [Fl.e10 iA jnhF jnhL (own_p jnhF jnhL hc10) (Or.inl hc22)]; decide)).2) (XS.iconst X14.here hx rfl (hb hby at_348) (XS.goto X14.here hx rfl (pc0 := 349) (pc' := 353) rfl (hb hby at_349) (by decide) (by decide) (XS.istore X14.here hx rfl (hb hby at_353) rfl (l' := #[.val (.int iA), .val (.int iF), .val (.int iL), .val (.int iM), .val (.ref b5), .val (.double (FP.i2d iA)), .second, .val (.int (iF &&& (65535 : Int32))), .val (.int (iL &&& (65535 : Int32))), .val (.int ((iL &&& (65535 : Int32)) + (iM &&& (65535 : Int32)))), .val (.double (FP.i2d (iL &&& (65535 : Int32)))), .second, .val (.double (4612136378390124954 : UInt64)), .second, .val (.int (1 : Int32)), .val (.double (Fl.scf (FP.i2d iA) (iF &&& (65535 : Int32)) (FP.i2d (iL &&& (65535 : Int32))))), .second]) rfl (XS.iload X14.here hx rfl (hb hby at_355) rfl k)))))) ?_
        show Go p.tables e below Pf (T14.setTop (mkF m 357 #[.val (.int iA), .val (.int iF), .val (.int iL), .val (.int iM), .val (.ref b5), .val (.double (FP.i2d iA)), .second, .val (.int (iF &&& (65535 : Int32))), .val (.int (iL &&& (65535 : Int32))), .val (.int ((iL &&& (65535 : Int32)) + (iM &&& (65535 : Int32)))), .val (.double (FP.i2d (iL &&& (65535 : Int32)))), .second, .val (.double (4612136378390124954 : UInt64)), .second, .val (.int (1 : Int32)), .val (.double (Fl.scf (FP.i2d iA) (iF &&& (65535 : Int32)) (FP.i2d (iL &&& (65535 : Int32))))), .second] [(.int (1 : Int32))]))
        rw [hPf]
        exact Go.retI' X14 hx hret hlk (by simp) rfl (hb hby at_357) (by decide) (by decide) ⟨rfl, N6, (by rw [e14]; exact KC6)⟩
      · refine Go.by' (fun t k => (XS.ifNo X14.here hx rfl (hb hby at_328) rfl ((if0 _ _).trans (feq hc22).1) (XS.iload X14.here hx rfl (hb hby at_331) rfl k))) ?_
        show Go p.tables e below Pf (T14.setTop (mkF m 333 #[.val (.int iA), .val (.int iF), .val (.int iL), .val (.int iM), .val (.ref b5), .val (.double (FP.i2d iA)), .second, .val (.int (iF &&& (65535 : Int32))), .val (.int (iL &&& (65535 : Int32))), .val (.int ((iL &&& (65535 : Int32)) + (iM &&& (65535 : Int32)))), .val (.double (FP.i2d (iL &&& (65535 : Int32)))), .second, .val (.double (4612136378390124954 : UInt64)), .second, .val (.int (1 : Int32)), .val (.double (Fl.scf (FP.i2d iA) (iF &&& (65535 : Int32)) (FP.i2d (iL &&& (65535 : Int32))))), .second] [(.int (iF &&& (65535 : Int32)))]))
        by_cases hc23 : (iF &&& (65535 : Int32)) = (0 : Int32)
        · refine Go.by' (fun t k => (XS.ifNo X14.here hx rfl (hb hby at_333) rfl ((if0 _ _).trans (teq hc23).2) (XS.iload X14.here hx rfl (hb hby at_336) rfl (XS.ifNo X14.here hx rfl (hb hby at_338) rfl ((if0 _ _).trans (feq (by decide)).1) (XS.dload X14.here hx rfl (hb hby at_341) rfl (XS.dconst0 X14.here hx rfl (hb hby at_343) rfl (XS.dcmpS X14.here hx rfl (hb hby at_344) rfl rfl k))))))) ?_
          show Go p.tables e below Pf (T14.setTop (mkF m 345 #[.val (.int iA), .val (.int iF), .val (.int iL), .val (.int iM), .val (.ref b5), .val (.double (FP.i2d iA)), .second, .val (.int (iF &&& (65535 : Int32))), .val (.int (iL &&& (65535 : Int32))), .val (.int ((iL &&& (65535 : Int32)) + (iM &&& (65535 : Int32)))), .val (.double (FP.i2d (iL &&& (65535 : Int32)))), .second, .val (.double (4612136378390124954 : UInt64)), .second, .val (.int (1 : Int32)), .val (.double (Fl.scf (FP.i2d iA) (iF &&& (65535 : Int32)) (FP.i2d (iL &&& (65535 : Int32))))), .second] [(.int (cmpValue (FP.dcmp (Fl.scf (FP.i2d iA) (iF &&& (65535 : Int32)) (FP.i2d (iL &&& (65535 : Int32)))) FP.dconst0) .l))]))
          refine Go.by' (fun t k => (XS.ifNo X14.here hx rfl (hb hby at_345) rfl ((if0 _ _).trans (teq (by rw [Fl.e10 iA jnhF jnhL (own_p jnhF jnhL hc10) (Or.inr hc23)]; decide)).2) (XS.iconst X14.here hx rfl (hb hby at_348) (XS.goto X14.here hx rfl (pc0 := 349) (pc' := 353) rfl (hb hby at_349) (by decide) (by decide) (XS.istore X14.here hx rfl (hb hby at_353) rfl (l' := #[.val (.int iA), .val (.int iF), .val (.int iL), .val (.int iM), .val (.ref b5), .val (.double (FP.i2d iA)), .second, .val (.int (iF &&& (65535 : Int32))), .val (.int (iL &&& (65535 : Int32))), .val (.int ((iL &&& (65535 : Int32)) + (iM &&& (65535 : Int32)))), .val (.double (FP.i2d (iL &&& (65535 : Int32)))), .second, .val (.double (4612136378390124954 : UInt64)), .second, .val (.int (1 : Int32)), .val (.double (Fl.scf (FP.i2d iA) (iF &&& (65535 : Int32)) (FP.i2d (iL &&& (65535 : Int32))))), .second]) rfl (XS.iload X14.here hx rfl (hb hby at_355) rfl k)))))) ?_
          show Go p.tables e below Pf (T14.setTop (mkF m 357 #[.val (.int iA), .val (.int iF), .val (.int iL), .val (.int iM), .val (.ref b5), .val (.double (FP.i2d iA)), .second, .val (.int (iF &&& (65535 : Int32))), .val (.int (iL &&& (65535 : Int32))), .val (.int ((iL &&& (65535 : Int32)) + (iM &&& (65535 : Int32)))), .val (.double (FP.i2d (iL &&& (65535 : Int32)))), .second, .val (.double (4612136378390124954 : UInt64)), .second, .val (.int (1 : Int32)), .val (.double (Fl.scf (FP.i2d iA) (iF &&& (65535 : Int32)) (FP.i2d (iL &&& (65535 : Int32))))), .second] [(.int (1 : Int32))]))
          rw [hPf]
          exact Go.retI' X14 hx hret hlk (by simp) rfl (hb hby at_357) (by decide) (by decide) ⟨rfl, N6, (by rw [e14]; exact KC6)⟩
        · refine Go.by' (fun t k => (XS.ifYes X14.here hx rfl (pc0 := 333) (pc' := 355) rfl (hb hby at_333) rfl ((if0 _ _).trans (feq hc23).2) (by decide) (by decide) (XS.iload X14.here hx rfl (hb hby at_355) rfl k))) ?_
          show Go p.tables e below Pf (T14.setTop (mkF m 357 #[.val (.int iA), .val (.int iF), .val (.int iL), .val (.int iM), .val (.ref b5), .val (.double (FP.i2d iA)), .second, .val (.int (iF &&& (65535 : Int32))), .val (.int (iL &&& (65535 : Int32))), .val (.int ((iL &&& (65535 : Int32)) + (iM &&& (65535 : Int32)))), .val (.double (FP.i2d (iL &&& (65535 : Int32)))), .second, .val (.double (4612136378390124954 : UInt64)), .second, .val (.int (1 : Int32)), .val (.double (Fl.scf (FP.i2d iA) (iF &&& (65535 : Int32)) (FP.i2d (iL &&& (65535 : Int32))))), .second] [(.int (1 : Int32))]))
          rw [hPf]
          exact Go.retI' X14 hx hret hlk (by simp) rfl (hb hby at_357) (by decide) (by decide) ⟨rfl, N6, (by rw [e14]; exact KC6)⟩
set_option maxRecDepth 65536 in
set_option maxHeartbeats 40000000 in
theorem comes_1 {Post : Tables → Env → Array Value → State → Outcome → State → Prop} (hpost : ∀ tb e args s v u, (limb_1_1.after args s (.returned v) u = true ∧ limb_1_2.after args s (.returned v) u = true ∧ True) → FrameEnd s (.returned v) u (Jvm.fieldLocs frame_1_writes args s ++ Jvm.arrayLocs frame_1_arrays args s ++ Jvm.staticLocs frame_1_statics s) 16 128 → Post tb e args s (.returned v) u) :
    ArmFor flags0 classFile x code maxLocals ret World_1 tables_1 room_1 Calls_1 rest_1 Pre_1 Post := by
  intro l hfl _ _ p e ha hc hk s m args below hf hA hF happ hP
  obtain ⟨hcalls, hrest, hpre⟩ := hP
  obtain ⟨-, -, -, hnamed, -, -, -, hat⟩ := (Spec.applies_iff hf).mp happ
  obtain ⟨hg, hn⟩ := and_e (Cond.before_iff.mp (show (Jvm.Cond.and given_1 narrow_1).before args s = true from hpre))
  obtain ⟨ga1, gb1⟩ := and_e hg
  obtain ⟨ga2, gb2⟩ := and_e gb1
  obtain ⟨ga3, gb3⟩ := and_e gb2
  obtain ⟨ga4, gb4⟩ := and_e gb3
  obtain ⟨w0, w1, w2, w3, rfl⟩ : ∃ w0 w1 w2 w3 : Value, args = #[w0, w1, w2, w3] := by
    have hs : args.size = 4 := by simpa [Cond.value, given_1] using ga1
    obtain ⟨L⟩ := args
    match L, hs with
    | [w0, w1, w2, w3], _ => exact ⟨w0, w1, w2, w3, rfl⟩
  have hw := fun d (hd : d ∈ tables_1) => atoms_spec (ws := Jvm.Cond.code x code maxLocals ret :: tables_1) hat d (List.mem_cons_of_mem _ hd)
  have hfit : Fit s := fun {y c} hc i hi => by
    obtain ⟨ha, rfl⟩ := Array.getElem?_eq_some_iff.mp hc
    have q := List.all_eq_true.mp ((Array.all_eq_true_iff_forall_mem.mp hF) _ (Array.getElem_mem ha)) i (List.mem_range.mpr hi)
    simpa [Array.getElem?_eq_getElem hi] using q
  obtain ⟨iA, ei0⟩ := is_v ga2
  obtain rfl : w0 = (.int iA) := Option.some.inj ei0
  obtain ⟨iF, ei1⟩ := is_v ga3
  obtain rfl : w1 = (.int iF) := Option.some.inj ei1
  obtain ⟨iL, ei2⟩ := is_v ga4
  obtain rfl : w2 = (.int iL) := Option.some.inj ei2
  obtain ⟨iM, ei3⟩ := is_v gb4
  obtain rfl : w3 = (.int iM) := Option.some.inj ei3
  obtain ⟨n, o, h1, h2, h3, _, L, rfl, hQ, hq⟩ := rm0 l s _ hw tables_1  iA iF iL iM s.heap s.heap.size (Old.start s)  p e ha hc hk s m _ below hf ((Spec.applies_iff_loose hf).mp happ).1 ⟨rfl, State.Warmed39.refl s, rfl⟩ trivial
  obtain ⟨rfl, N, -⟩ := hQ
  refine ⟨n, _, h1, h2, h3, hpost _ _ _ _ _ _ ⟨Cond.after_iff.mpr rfl, Cond.after_iff.mpr (eq_i res_at (Term.int_eval (1)) rfl), trivial⟩ ⟨hq.1, hq.2.1, (hq.2.2.sift fun y hy => Or.inr (N y hy)).mono (by decide) (by decide)⟩⟩
theorem main_1_1 : Claimed_1_1 := comes_1 fun _ _ _ _ _ _ h hF => ⟨h.1, hF⟩
theorem main_1_2 : Claimed_1_2 := comes_1 fun _ _ _ _ _ _ h hF => ⟨h.2.1, hF⟩
end Jvm.Pilot.@@N@@
namespace Jvm.Pilot.@@N@@
open Jvm Jvm.ClassFile Sem Op Lib Jvm.Free Jvm.Stand Jvm.Pilot.@@N@@.Jvm.D
/-! MADE BY PROGRAM (witnessworld.py) out of the Statement's table words and the real class files: 9 classes; the members and pool entries that the words name. The judged class is class 1, her method 1. -/
namespace start1
open Jvm.ClassFile
def u (s : String) : CpInfo := .utf8 (stringToUtf16 s)
/-- a pool by its gaps: so many unusable entries, then the entry; so many at the end -/
def gap : Nat → List CpInfo → List CpInfo
  | 0, r => r
  | n + 1, r => .unusable :: gap n r
def poolList (es : List (Nat × CpInfo)) (last : Nat) : List CpInfo := es.foldr (fun e r => gap e.1 (e.2 :: r)) (gap last [])
def pool (es : List (Nat × CpInfo)) (last : Nat) : Array CpInfo := ⟨poolList es last⟩
def fileOf (pool : Array CpInfo) (this : Nat) (attrs : Array Attribute := #[]) (ms : Array MethodInfo := #[]) (fl : Nat := 33) (sup : Nat := 0) (ifs : Array Nat := #[]) (fds : Array FieldInfo := #[]) : ClassFile where
  minorVersion := 0
  majorVersion := 65
  constantPool := pool
  accessFlags := fl
  thisClass := this
  superClass := sup
  interfaces := ifs
  fields := fds
  methods := ms
  attributes := attrs
def plain (name : String) (sup : Option ClassId) : Class where
  name := name
  kind := .ordinary
  loader := none
  accessFlags := 33
  super := sup
  interfaces := #[]
  cf := none
  fields := #[]
  methods := #[]
  instanceTypes := #[]
  staticTypes := #[]
  resolved := #[]
  callSites := []
  init := .initialized
  statics := none
  mirror := none

def pool0 : Array CpInfo := pool [(5, u "<init>"), (0, u "()V"), (1, .class_ 10), (1, u "java/lang/Object")] 113

def k0c0 : Code := { maxStack := 0, maxLocals := 1, code := object_method_1_code, exceptionTable := #[], attributes := #[] }
def k0m0 : Method := { name := "<init>", desc := "()V", sig := { parameters := [], returnType := none }, accessFlags := 1, code := some k0c0 }
/-- java/lang/Object -/
def k0 : Class := { plain "java/lang/Object" none with
  accessFlags := 33
  interfaces := #[]
  cf := some (fileOf pool0 8 #[] #[{ accessFlags := 1, nameIndex := 5, descriptorIndex := 6, attributes := #[] }] 33 0 #[] #[])
  fields := #[]
  methods := #[k0m0]
  instanceTypes := #[]
  staticTypes := #[]
  resolved := Array.replicate 124 none
  statics := none }

def pool1 : Array CpInfo := pool [(2, .class_ 4), (1, u "java/lang/Object"), (0, u "<init>"), (0, u "()V"), (0, .class_ 8), (0, u "com/example/kull/kull/core/search/Bm25"), (0, .methodref 7 10), (0, .nameAndType 5 11), (0, u "(IJ)V"), (0, .integer 65535), (0, .double 4612136378390124954), (1, .methodref 7 16), (0, .nameAndType 17 18), (0, u "score"), (0, u "(DID)D"), (0, .double 4611686018427387904), (1, .double 4613937818241073152), (1, .class_ 24), (0, u "com/example/kull/kull/core/search/Bm25ScorePinLaw"), (2, u "law"), (0, u "(IIII)Z")] 3

def k1m0 : Method := { name := "<init>", desc := "()V", sig := { parameters := [], returnType := none }, accessFlags := 1, code := none }
def k1c1 : Code := { maxStack := 8, maxLocals := 17, code := code, exceptionTable := #[], attributes := #[] }
def k1m1 : Method := { name := "law", desc := "(IIII)Z", sig := { parameters := [.int, .int, .int, .int], returnType := some .boolean }, accessFlags := 9, code := some k1c1 }
/-- com/example/kull/kull/core/search/Bm25ScorePinLaw -/
def k1 : Class := { plain "com/example/kull/kull/core/search/Bm25ScorePinLaw" (some 0) with
  accessFlags := 49
  interfaces := #[]
  cf := some (fileOf pool1 23 #[] #[{ accessFlags := 1, nameIndex := 5, descriptorIndex := 6, attributes := #[] }, { accessFlags := 9, nameIndex := 27, descriptorIndex := 28, attributes := #[] }] 49 2 #[] #[])
  fields := #[]
  methods := #[k1m0, k1m1]
  instanceTypes := #[]
  staticTypes := #[]
  resolved := Array.replicate 32 none
  statics := none }

def pool2 : Array CpInfo := pool [(1, .methodref 2 3), (0, .class_ 4), (0, .nameAndType 5 6), (0, u "java/lang/Object"), (0, u "<init>"), (0, u "()V"), (0, .fieldref 8 9), (0, .class_ 10), (0, .nameAndType 11 12), (0, u "com/example/kull/kull/core/search/Bm25"), (0, u "documentCount"), (0, u "I"), (0, .fieldref 8 14), (0, .nameAndType 15 16), (0, u "averageLength"), (0, u "D"), (14, .double 4612136378390124954), (1, u "K1"), (1, u "B"), (0, u "(IJ)V"), (5, u "score"), (0, u "(DID)D")] 2

def k2c0 : Code := { maxStack := 5, maxLocals := 4, code := prog_28_method_1_code, exceptionTable := #[], attributes := #[] }
def k2m0 : Method := { name := "<init>", desc := "(IJ)V", sig := { parameters := [.int, .long], returnType := none }, accessFlags := 1, code := some k2c0 }
def k2c1 : Code := { maxStack := 6, maxLocals := 6, code := prog_28_method_4_code, exceptionTable := #[], attributes := #[] }
def k2m1 : Method := { name := "score", desc := "(DID)D", sig := { parameters := [.double, .int, .double], returnType := some .double }, accessFlags := 1, code := some k2c1 }
/-- com/example/kull/kull/core/search/Bm25 -/
def k2 : Class := { plain "com/example/kull/kull/core/search/Bm25" (some 0) with
  accessFlags := 49
  interfaces := #[]
  cf := some (fileOf pool2 8 #[] #[{ accessFlags := 1, nameIndex := 5, descriptorIndex := 36, attributes := #[] }, { accessFlags := 1, nameIndex := 42, descriptorIndex := 43, attributes := #[] }] 49 2 #[] #[{ accessFlags := 25, nameIndex := 33, descriptorIndex := 16, attributes := #[] }, { accessFlags := 25, nameIndex := 35, descriptorIndex := 16, attributes := #[] }, { accessFlags := 18, nameIndex := 11, descriptorIndex := 12, attributes := #[] }, { accessFlags := 18, nameIndex := 15, descriptorIndex := 16, attributes := #[] }])
  fields := #[{ name := "K1", type := .double, accessFlags := 25, slot := 0, constantValue := 0 }, { name := "B", type := .double, accessFlags := 25, slot := 1, constantValue := 0 }, { name := "documentCount", type := .int, accessFlags := 18, slot := 0, constantValue := 0 }, { name := "averageLength", type := .double, accessFlags := 18, slot := 1, constantValue := 0 }]
  methods := #[k2m0, k2m1]
  instanceTypes := #[.int, .double]
  staticTypes := #[.double, .double]
  resolved := Array.replicate 46 none
  statics := none }

def pool3 : Array CpInfo := pool [(1, u "java/lang/Cloneable"), (0, .class_ 1), (0, u "java/lang/Object"), (0, .class_ 3)] 3

/-- java/lang/Cloneable -/
def k3 : Class := { plain "java/lang/Cloneable" (some 0) with
  accessFlags := 1537
  interfaces := #[]
  cf := some (fileOf pool3 2 #[] #[] 1537 4 #[] #[])
  fields := #[]
  methods := #[]
  instanceTypes := #[]
  staticTypes := #[]
  resolved := Array.replicate 8 none
  statics := none }

def pool4 : Array CpInfo := pool [(1, u "java/io/Serializable"), (0, .class_ 1), (0, u "java/lang/Object"), (0, .class_ 3)] 3

/-- java/io/Serializable -/
def k4 : Class := { plain "java/io/Serializable" (some 0) with
  accessFlags := 1537
  interfaces := #[]
  cf := some (fileOf pool4 2 #[] #[] 1537 4 #[] #[])
  fields := #[]
  methods := #[]
  instanceTypes := #[]
  staticTypes := #[]
  resolved := Array.replicate 8 none
  statics := none }

/-- the primitive byte -/
def k5 : Class := { plain "byte" none with kind := .primitive 'B', accessFlags := 0x411 }
/-- [B -/
def k6 : Class := { plain "[B" (some 0) with kind := .array 5 .byte, interfaces := #[3, 4], accessFlags := 1041 }

/-- the primitive int -/
def k7 : Class := { plain "int" none with kind := .primitive 'I', accessFlags := 0x411 }
/-- [I -/
def k8 : Class := { plain "[I" (some 0) with kind := .array 7 .int, interfaces := #[3, 4], accessFlags := 1041 }

def heap : Heap := #[]
def classes : Array Class := #[k0, k1, k2, k3, k4, k5, k6, k7, k8]
def interned : List (Array UInt16 × Addr) := []
def slotsUsed : Nat := 0
def theMethod : MethodId := ⟨1, 1⟩
def args0 : Array Value := #[.int 5, .int 2, .int 3, .int 4]
def aboutOver (below : List Frame) : State where
  vm := { classes := classes, interned := interned.toArray }
  heap := heap
  slotsUsed := slotsUsed
  threads := #[{ frames := .invoking theMethod args0 :: below }]
def below0 : List Frame := [.native { method := ⟨0, 0⟩, args := #[] }]
def about1 : State := aboutOver below0
def p0 : Program := .bare "" "" ""
def e0 : Env := launch0.env 0 0 0
theorem w_frames : about1.frames = Frame.invoking theMethod args0 :: below0 := rfl
set_option maxRecDepth 65536 in
theorem w_args : argsFit about1.vm theMethod args0 = true := by decide +kernel
set_option maxRecDepth 65536 in
theorem w_heap : heapFits about1 = true := by decide +kernel
set_option maxRecDepth 65536 in
theorem w_runnable : about1.curStatus? = some .runnable := by decide +kernel
set_option maxRecDepth 65536 in
theorem w_alone : about1.alone = true := by decide +kernel
set_option maxRecDepth 65536 in
theorem w_named : about1.methodNamed? x = some theMethod := by decide +kernel
set_option maxRecDepth 65536 in
theorem w_hears : about1.hears theMethod below0 = true := by decide +kernel
set_option maxRecDepth 65536 in
theorem w_ripe : about1.ripe theMethod args0 below0 = true := by decide +kernel
theorem w_running : about1.status = .running := rfl
set_option maxRecDepth 65536 in
theorem w_room : about1.hasRoom e0.platform room_1 = true :=
  launch0.hasRoom_least _ room_1 (by decide +kernel) (by decide +kernel) (by decide +kernel) (by decide +kernel) (by decide +kernel) (by decide +kernel)
theorem allAtoms_all (ts : List Jvm.Cond) (a : Array Jvm.Value) (st : Jvm.State) : (allAtoms ts).before a st = ts.all (fun c => c.before a st) := by
  induction ts with
  | nil => rfl
  | cons c t ih =>
    show (Jvm.Cond.and c (allAtoms t)).before a st = _
    rw [Jvm.Cond.before_and, ih, List.all_cons]
def words1 : List Jvm.Cond := Jvm.Cond.code x code maxLocals ret :: tables_1
/-- a 'code' word, met by the world's own term for the bytes: nothing is compared byte by byte -/
theorem code_word {y : MethodName} {bytes : ByteArray} {mx : Nat} {rt : Option FieldType} {a : Array Value} {s : State} {m : MethodId} {meth : Method} {c : Code} (h1 : s.methodNamed? y = some m) (h2 : s.vm.method? m = some meth) (h3 : meth.code = some c) (h4 : c.code = bytes)
    (h5 : (c.maxLocals == mx && c.exceptionTable.isEmpty && decide (c.maxStack ≤ mostOperands) && decide (meth.sig.returnType = rt) && !meth.locks && decide (parseMethodDescriptor y.desc = some meth.sig)) = true) : (Jvm.Cond.code y bytes mx rt).before a s = true := by
  simp only [Bool.and_eq_true, beq_iff_eq, Bool.not_eq_true', decide_eq_true_eq] at h5
  obtain ⟨⟨⟨⟨⟨g1, g2⟩, g3⟩, g4⟩, g5⟩, g6⟩ := h5
  simp [Cond.before, Cond.holds, Cond.value, h1, h2, h3, h4, g1, g2, g3, g4, g5, g6]
def isCode : Jvm.Cond → Bool
  | .code _ _ _ _ => true
  | _ => false
theorem all_split {L : List Jvm.Cond} {P : Jvm.Cond → Bool} (h1 : L.all (fun c => isCode c || P c) = true) (h2 : ∀ c ∈ L.filter isCode, P c = true) : L.all P = true := by
  refine List.all_eq_true.mpr fun c hc => ?_
  have h := List.all_eq_true.mp h1 c hc
  rcases Bool.eq_false_or_eq_true (isCode c) with hi | hi
  · exact h2 c (List.mem_filter.mpr ⟨hc, hi⟩)
  · simpa [hi] using h
set_option maxRecDepth 65536 in
theorem w_c0 : (Jvm.Cond.code x code maxLocals ret).before args0 about1 = true := code_word (m := ⟨1, 1⟩) (meth := k1m1) (c := k1c1) (by decide +kernel) rfl rfl rfl (by decide +kernel)
set_option maxRecDepth 65536 in
theorem w_c1 : (Jvm.Cond.code ({ cls := "com/example/kull/kull/core/search/Bm25", name := "<init>", desc := "(IJ)V" } : Jvm.MethodName) prog_28_method_1_code (4 : Nat) (Option.none : Option Jvm.ClassFile.FieldType)).before args0 about1 = true := code_word (m := ⟨2, 0⟩) (meth := k2m0) (c := k2c0) (by decide +kernel) rfl rfl rfl (by decide +kernel)
set_option maxRecDepth 65536 in
theorem w_c2 : (Jvm.Cond.code ({ cls := "java/lang/Object", name := "<init>", desc := "()V" } : Jvm.MethodName) object_method_1_code (1 : Nat) (Option.none : Option Jvm.ClassFile.FieldType)).before args0 about1 = true := code_word (m := ⟨0, 0⟩) (meth := k0m0) (c := k0c0) (by decide +kernel) rfl rfl rfl (by decide +kernel)
set_option maxRecDepth 65536 in
theorem w_c3 : (Jvm.Cond.code ({ cls := "com/example/kull/kull/core/search/Bm25", name := "score", desc := "(DID)D" } : Jvm.MethodName) prog_28_method_4_code (6 : Nat) (Option.some Jvm.ClassFile.FieldType.double)).before args0 about1 = true := code_word (m := ⟨2, 1⟩) (meth := k2m1) (c := k2c1) (by decide +kernel) rfl rfl rfl (by decide +kernel)
def codes1 : List Jvm.Cond := [Jvm.Cond.code x code maxLocals ret, Jvm.Cond.code ({ cls := "com/example/kull/kull/core/search/Bm25", name := "<init>", desc := "(IJ)V" } : Jvm.MethodName) prog_28_method_1_code (4 : Nat) (Option.none : Option Jvm.ClassFile.FieldType), Jvm.Cond.code ({ cls := "java/lang/Object", name := "<init>", desc := "()V" } : Jvm.MethodName) object_method_1_code (1 : Nat) (Option.none : Option Jvm.ClassFile.FieldType), Jvm.Cond.code ({ cls := "com/example/kull/kull/core/search/Bm25", name := "score", desc := "(DID)D" } : Jvm.MethodName) prog_28_method_4_code (6 : Nat) (Option.some Jvm.ClassFile.FieldType.double)]
set_option maxRecDepth 65536 in
theorem codes_eq : words1.filter isCode = codes1 := rfl
theorem w_codes : ∀ c ∈ words1.filter isCode, c.before args0 about1 = true := by
  rw [codes_eq]
  intro c hc
  simp only [codes1, List.mem_cons, List.not_mem_nil, or_false] at hc
  rcases hc with rfl | rfl | rfl | rfl
  · exact w_c0
  · exact w_c1
  · exact w_c2
  · exact w_c3
set_option maxRecDepth 65536 in
theorem w_t1 : words1.all (fun c => isCode c || c.before args0 about1) = true := by decide +kernel
theorem w_tables : (allAtoms (Jvm.Cond.code x code maxLocals ret :: tables_1)).before args0 about1 = true := by
  rw [allAtoms_all]
  show words1.all (fun c => c.before args0 about1) = true
  refine all_split ?_ w_codes
  rw [w_t1]
set_option maxRecDepth 65536 in
theorem w_case : (Jvm.Cond.and given_1 narrow_1).before args0 about1 = true := by decide +kernel
theorem w_applies : (headSpec (Jvm.Cond.code x code maxLocals ret :: tables_1) room_1).applies x e0.platform about1 = true :=
  (Spec.applies_iff w_frames).mpr ⟨w_running, w_runnable, w_alone, w_named, w_hears, w_ripe, w_room, w_tables⟩
theorem atStart : AtStart classFile x code maxLocals ret World_1 tables_1 room_1 Calls_1 rest_1 Pre_1 launch0 p0 e0 about1 theMethod args0 below0 :=
  ⟨lists_1, trivial, launch0.admits_env _ _ _, launch0.least_env, fairChoices_fair.cas, fairChoices_fair.clock, w_frames, w_args, w_heap, w_applies, trivial, trivial, w_case⟩
end start1
theorem witness_1 : WitnessClaimed_1 := ⟨start1.p0, start1.e0, start1.about1, start1.theMethod, start1.args0, start1.below0, start1.atStart⟩
end Jvm.Pilot.@@N@@
