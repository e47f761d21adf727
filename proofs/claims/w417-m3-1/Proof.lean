import JvmDerived
import JvmDerived.Pilot.@@N@@Statement
import JvmDerived.Pilot.@@N@@Code
set_option linter.unusedVariables false
set_option linter.unusedSimpArgs false
namespace Jvm.OwnF
open Jvm.FP Jvm.Free.Fl
/-! Exact dyadic arithmetic on doubles: Dy i k u says that the double u is the number i / 2^k. -/
/-- the datum times 2^k -/
def sh (k : Int) : Core.Datum → Core.Datum
  | .nan => .nan
  | .inf s => .inf s
  | .fin s c q => .fin s c (q + k)
def Dy (i : Int) (k : Nat) (u : UInt64) : Prop := Core.Whole i (sh k (Core.val64 u))
theorem mpos {a b : Int} (hb : 0 < b) : 0 < a * b ↔ 0 < a := by
  constructor
  · intro h
    refine Int.lt_of_not_ge fun hle => ?_
    have q := Int.mul_le_mul_of_nonneg_right hle (Int.le_of_lt hb)
    rw [Int.zero_mul] at q
    omega
  · intro h
    exact Int.mul_pos h hb
theorem sh_zero (d : Core.Datum) : sh ((0 : Nat) : Int) d = d := by
  cases d with
  | nan => rfl
  | inf s => rfl
  | fin s c q => show Core.Datum.fin s c (q + ((0 : Nat) : Int)) = _; rw [show q + ((0 : Nat) : Int) = q by omega]
theorem sh_neg (k : Int) (d : Core.Datum) : Core.negate (sh k d) = sh k (Core.negate d) := by cases d <;> rfl
theorem sh_sum (k : Int) (x y : Core.Datum) : Core.exactSum (sh k x) (sh k y) = sh k (Core.exactSum x y) := by
  cases x with
  | nan => cases y <;> rfl
  | inf s =>
    cases y with
    | nan => rfl
    | inf t => show (if s = t then Core.Datum.inf s else .nan) = sh k (if s = t then Core.Datum.inf s else .nan); split <;> rfl
    | fin t d r => rfl
  | fin s c q =>
    cases y with
    | nan => rfl
    | inf t => rfl
    | fin t d r =>
      have hm : min (q + k) (r + k) = min q r + k := by omega
      have hu : Core.sumUnits s c (q + k) t d (r + k) (min (q + k) (r + k)) = Core.sumUnits s c q t d r (min q r) := by
        rw [hm]
        unfold Core.sumUnits Core.inUnits
        rw [show q + k - (min q r + k) = q - min q r by omega, show r + k - (min q r + k) = r - min q r by omega]
      show Core.Datum.fin (Core.sumSign s t (Core.sumUnits s c (q + k) t d (r + k) (min (q + k) (r + k)))) (Core.sumUnits s c (q + k) t d (r + k) (min (q + k) (r + k))).natAbs (min (q + k) (r + k)) = Core.Datum.fin (Core.sumSign s t (Core.sumUnits s c q t d r (min q r))) (Core.sumUnits s c q t d r (min q r)).natAbs (min q r + k)
      rw [hu, hm]
theorem sh_prod (j k : Int) (x y : Core.Datum) : Core.exactProduct (sh j x) (sh k y) = sh (j + k) (Core.exactProduct x y) := by
  cases x with
  | nan => cases y <;> rfl
  | inf s =>
    cases y with
    | nan => rfl
    | inf t => rfl
    | fin t d r => show (if d = 0 then Core.Datum.nan else .inf (s != t)) = sh (j + k) (if d = 0 then Core.Datum.nan else .inf (s != t)); split <;> rfl
  | fin s c q =>
    cases y with
    | nan => rfl
    | inf t => show (if c = 0 then Core.Datum.nan else .inf (s != t)) = sh (j + k) (if c = 0 then Core.Datum.nan else .inf (s != t)); split <;> rfl
    | fin t d r => show Core.Datum.fin (s != t) (c * d) (q + j + (r + k)) = Core.Datum.fin (s != t) (c * d) (q + r + (j + k)); rw [show q + j + (r + k) = q + r + (j + k) by omega]
theorem sh_order (k : Int) (x y : Core.Datum) : Core.order (sh k x) (sh k y) = Core.order x y := by
  cases x with
  | nan => cases y <;> rfl
  | inf s => cases y <;> rfl
  | fin s c q =>
    cases y with
    | nan => rfl
    | inf t => rfl
    | fin t d r =>
      have hm : min (q + k) (r + k) = min q r + k := by omega
      show some (compare (Core.signed s (Core.inUnits c (q + k) (min (q + k) (r + k)))) (Core.signed t (Core.inUnits d (r + k) (min (q + k) (r + k))))) = some (compare (Core.signed s (Core.inUnits c q (min q r))) (Core.signed t (Core.inUnits d r (min q r))))
      unfold Core.inUnits
      rw [hm, show q + k - (min q r + k) = q - min q r by omega, show r + k - (min q r + k) = r - min q r by omega]
theorem sgn_whole {i : Int} {s : Bool} {c : Nat} {q : Int} (h : Core.Whole i (.fin s c q)) : Core.signed s i.natAbs = i := by
  by_cases hi0 : i = 0
  · rw [hi0]; exact Core.signed_zero s
  · rw [Core.whole_sign h hi0]
    unfold Core.signed
    by_cases h : i < 0 <;> simp [h] <;> omega
/-- n / 2^k, rounded, is exact -/
theorem ratio_exact (s : Bool) {n k : Nat} (hn : n ≤ 2 ^ 53) (hk : k ≤ 1000) : ∃ c q, Core.roundRatio Core.b64 s n 1 (-(k : Int)) = .fin s c q ∧ n * 2 ^ (-(q + k)).toNat = c * 2 ^ (q + k).toNat := by
  by_cases h0 : n = 0
  · subst h0
    exact ⟨0, Core.b64.qmin, rfl, by simp⟩
  · obtain ⟨c', q', hfit, hv⟩ := Core.natFit Core.good_b64 Core.wide_b64 s (n := n) hn
    obtain ⟨f1, f2, f3, f4⟩ := hfit
    have e53 : 2 ^ Core.b64.p = 9007199254740992 := by decide
    have hmin : Core.b64.qmin = -1074 := by decide
    rw [e53] at f1
    rw [Nat.mul_one] at hv
    have hq : -53 < q' := by
      refine Int.lt_of_not_ge fun hle => ?_
      rw [show (q' - 0).toNat = 0 by omega, Nat.pow_zero, Nat.mul_one] at hv
      have h1 : 2 ^ 53 ≤ 2 ^ (0 - q').toNat := Nat.pow_le_pow_right (by decide) (by omega)
      have h2 : 1 * 2 ^ (0 - q').toNat ≤ n * 2 ^ (0 - q').toNat := Nat.mul_le_mul_right _ (by omega)
      have h3 : (2 : Nat) ^ 53 = 9007199254740992 := by decide
      omega
    have ht : Core.b64.tails ≤ c' := f4.resolve_left (by omega)
    have hfit' : Core.fits Core.b64 (.fin s c' (q' - k)) := ⟨by rw [e53]; exact f1, by omega, by omega, Or.inr ht⟩
    refine ⟨c', q' - k, Core.roundRatio_exact Core.good_b64 (by decide) hfit' ?_, ?_⟩
    · rw [Nat.mul_one, show (-(k : Int) - (q' - k)).toNat = (0 - q').toNat by omega, show (q' - k - -(k : Int)).toNat = (q' - 0).toNat by omega]
      exact hv
    · rw [show (-(q' - (k : Int) + k)).toNat = (0 - q').toNat by omega, show (q' - (k : Int) + k).toNat = (q' - 0).toNat by omega]
      exact hv
theorem whole_ratio (s : Bool) {i : Int} {k : Nat} (hs : Core.signed s i.natAbs = i) (hi : i.natAbs ≤ 2 ^ 53) (hk : k ≤ 1000) : Core.Whole i (sh k (Core.roundRatio Core.b64 s i.natAbs 1 (-(k : Int)))) := by
  obtain ⟨c, q, e, hv⟩ := ratio_exact s hi hk
  rw [e]
  show Core.signed s (c * 2 ^ (q + (k : Int)).toNat) = i * ((2 ^ (-(q + (k : Int))).toNat : Nat) : Int)
  rw [← hv, Core.signed_mul, hs]
/-- what i / 2^k rounds to -/
theorem round_eq {i : Int} {k : Nat} {s : Bool} {c : Nat} {q : Int} (h : Core.Whole i (sh k (.fin s c q))) : Core.round Core.b64 (.fin s c q) = Core.roundRatio Core.b64 s i.natAbs 1 (-(k : Int)) := by
  refine Core.roundRatio_congr (by decide) (by decide) ?_
  have h1 := Core.whole_natAbs (show Core.Whole i (.fin s c (q + (k : Int))) from h)
  rw [show (q - -(k : Int)).toNat = (q + (k : Int)).toNat by omega, show (-(k : Int) - q).toNat = (-(q + (k : Int))).toNat by omega, Nat.mul_one, Nat.mul_one]
  exact h1
theorem round_dy {i : Int} {k : Nat} {d : Core.Datum} (h : Core.Whole i (sh k d)) (hi : i.natAbs ≤ 2 ^ 53) (hk : k ≤ 1000) : Core.Whole i (sh k (Core.round Core.b64 d)) := by
  cases d with
  | nan => exact h.elim
  | inf => exact h.elim
  | fin s c q =>
    rw [round_eq h]
    exact whole_ratio s (sgn_whole (show Core.Whole i (.fin s c (q + (k : Int))) from h)) hi hk
theorem Dy.shape {i : Int} {k : Nat} {u : UInt64} (h : Dy i k u) : ∃ s c q, Core.val64 u = .fin s c q := by
  unfold Dy at h
  cases e : Core.val64 u with
  | nan => rw [e] at h; exact h.elim
  | inf s => rw [e] at h; exact h.elim
  | fin s c q => exact ⟨s, c, q, rfl⟩
theorem Dy.ne_nan {i : Int} {k : Nat} {u : UInt64} (h : Dy i k u) : Core.val64 u ≠ .nan := by
  obtain ⟨s, c, q, e⟩ := h.shape
  rw [e]; exact nofun
theorem Dy.noNaN {i : Int} {k : Nat} {u : UInt64} (h : Dy i k u) : NoNaN64 u := val64_no.mpr h.ne_nan
theorem Dy.of_int {i : Int} {u : UInt64} (h : Core.DInt i u) : Dy i 0 u := by
  unfold Dy; rw [sh_zero]; exact h
theorem Dy.add {i j : Int} {k : Nat} {a b : UInt64} (ha : Dy i k a) (hb : Dy j k b) (h : (i + j).natAbs ≤ 2 ^ 53) (hk : k ≤ 1000) : Dy (i + j) k (FP.dadd a b) := by
  unfold Dy
  rw [show Core.val64 (FP.dadd a b) = _ from Core.val64_dadd a b]
  exact round_dy (by rw [← sh_sum]; exact Core.whole_sum ha hb) h hk
theorem Dy.sub {i j : Int} {k : Nat} {a b : UInt64} (ha : Dy i k a) (hb : Dy j k b) (h : (i - j).natAbs ≤ 2 ^ 53) (hk : k ≤ 1000) : Dy (i - j) k (FP.dsub a b) := by
  unfold Dy
  rw [show Core.val64 (FP.dsub a b) = _ from Core.val64_dsub a b]
  exact round_dy (by rw [← sh_sum, ← sh_neg]; exact Core.whole_sum ha (Core.whole_negate hb)) h hk
theorem Dy.mul {i j : Int} {k l : Nat} {a b : UInt64} (ha : Dy i k a) (hb : Dy j l b) (h : (i * j).natAbs ≤ 2 ^ 53) (hk : k + l ≤ 1000) : Dy (i * j) (k + l) (FP.dmul a b) := by
  unfold Dy
  rw [show Core.val64 (FP.dmul a b) = _ from Core.val64_dmul a b]
  exact round_dy (by rw [Int.natCast_add, ← sh_prod]; exact Core.whole_product ha hb) h hk
theorem Dy.cmp {i j : Int} {k : Nat} {a b : UInt64} (ha : Dy i k a) (hb : Dy j k b) : FP.dcmp a b = some (compare i j) := by
  show Core.order (Core.val64 a) (Core.val64 b) = _
  rw [← sh_order k]
  exact Core.order_whole ha hb
theorem Dy.scale {i : Int} {k : Nat} {a : UInt64} (ha : Dy i k a) (j : Nat) : Dy (i * (2 ^ j : Nat)) (k + j) a := by
  obtain ⟨s, c, q, e⟩ := ha.shape
  unfold Dy at ha ⊢
  rw [e] at ha ⊢
  have h1 : Core.Whole ((2 ^ j : Nat) : Int) (.fin false 1 (j : Int)) := by
    show Core.signed false (1 * 2 ^ ((j : Int)).toNat) = ((2 ^ j : Nat) : Int) * ((2 ^ (-(j : Int)).toNat : Nat) : Int)
    rw [show (-(j : Int)).toNat = 0 by omega, show ((j : Int)).toNat = j by omega]
    simp [Core.signed]
  have h2 := Core.whole_product ha h1
  have e2 : Core.exactProduct (sh k (.fin s c q)) (.fin false 1 (j : Int)) = sh ((k + j : Nat) : Int) (.fin s c q) := by
    show Core.Datum.fin (s != false) (c * 1) (q + (k : Int) + (j : Int)) = Core.Datum.fin s c (q + ((k + j : Nat) : Int))
    rw [Nat.mul_one, show (s != false) = s by cases s <;> rfl, show q + (k : Int) + (j : Int) = q + ((k + j : Nat) : Int) by omega]
  rw [e2] at h2
  exact h2
theorem whole_unscale {i : Int} {s : Bool} {c j : Nat} {q : Int} (h : Core.Whole (i * ((2 ^ j : Nat) : Int)) (.fin s c (q + (j : Int)))) : Core.Whole i (.fin s c q) := by
  have h1 : Core.signed s (c * 2 ^ (q + (j : Int)).toNat) = i * ((2 ^ j : Nat) : Int) * ((2 ^ (-(q + (j : Int))).toNat : Nat) : Int) := h
  show Core.signed s (c * 2 ^ q.toNat) = i * ((2 ^ (-q).toNat : Nat) : Int)
  have p2 : ((2 ^ j * 2 ^ (-(q + (j : Int))).toNat : Nat) : Int) ≠ 0 := by
    have := Nat.mul_pos (Nat.two_pow_pos j) (Nat.two_pow_pos (-(q + (j : Int))).toNat); omega
  refine Int.eq_of_mul_eq_mul_right p2 ?_
  have hx : q.toNat + (j + (-(q + (j : Int))).toNat) = (q + (j : Int)).toNat + (-q).toNat := by omega
  calc Core.signed s (c * 2 ^ q.toNat) * ((2 ^ j * 2 ^ (-(q + (j : Int))).toNat : Nat) : Int)
      = Core.signed s (c * 2 ^ (q.toNat + (j + (-(q + (j : Int))).toNat))) := by
        rw [← Core.signed_mul, Nat.pow_add 2 q.toNat, Nat.pow_add 2 j, Nat.mul_assoc c]
    _ = Core.signed s (c * 2 ^ (q + (j : Int)).toNat * 2 ^ (-q).toNat) := by rw [hx, Nat.pow_add, Nat.mul_assoc c]
    _ = i * ((2 ^ j : Nat) : Int) * ((2 ^ (-(q + (j : Int))).toNat : Nat) : Int) * ((2 ^ (-q).toNat : Nat) : Int) := by rw [Core.signed_mul, h1]
    _ = i * ((2 ^ (-q).toNat : Nat) : Int) * ((2 ^ j * 2 ^ (-(q + (j : Int))).toNat : Nat) : Int) := by rw [Int.natCast_mul]; ac_rfl
theorem sh_unscale {i : Int} {k j : Nat} {d : Core.Datum} (h : Core.Whole (i * ((2 ^ j : Nat) : Int)) (sh ((k + j : Nat) : Int) d)) : Core.Whole i (sh k d) := by
  cases d with
  | nan => exact h.elim
  | inf => exact h.elim
  | fin s c q =>
    refine whole_unscale (j := j) ?_
    have e : q + ((k + j : Nat) : Int) = q + (k : Int) + (j : Int) := by omega
    have h' : Core.Whole (i * ((2 ^ j : Nat) : Int)) (.fin s c (q + ((k + j : Nat) : Int))) := h
    rw [e] at h'; exact h'
theorem Dy.unscale {i : Int} {k j : Nat} {u : UInt64} (h : Dy (i * ((2 ^ j : Nat) : Int)) (k + j) u) : Dy i k u := sh_unscale h
theorem Dy.mulTo {i j n : Int} {k l r t : Nat} {a b : UInt64} (ha : Dy i k a) (hb : Dy j l b) (hn : i * j = n * ((2 ^ t : Nat) : Int)) (hr : k + l = r + t) (h : n.natAbs ≤ 2 ^ 53) (hk : r ≤ 1000) : Dy n r (FP.dmul a b) := by
  unfold Dy
  rw [show Core.val64 (FP.dmul a b) = _ from Core.val64_dmul a b]
  refine round_dy (sh_unscale (j := t) ?_) h hk
  have h1 := Core.whole_product ha hb
  rw [sh_prod, hn, ← Int.natCast_add, hr] at h1
  exact h1
theorem Dy.cast {i i' : Int} {k k' : Nat} {a : UInt64} (ha : Dy i k a) (hi : i = i') (hk : k = k') : Dy i' k' a := by subst hi hk; exact ha
theorem Dy.unique {i : Int} {k : Nat} {a b : UInt64} (ha : Dy i k a) (hb : Dy i k b) (hi : i ≠ 0) : a = b := by
  obtain ⟨s, c, q, e⟩ := ha.shape
  obtain ⟨t, d, r, e'⟩ := hb.shape
  refine Core.val64_inj ha.ne_nan ?_
  have f1 := Core.round_of_fits Core.good_b64 (Core.val64_fits a)
  have f2 := Core.round_of_fits Core.good_b64 (Core.val64_fits b)
  have ha' := ha; have hb' := hb
  unfold Dy at ha' hb'
  rw [e] at ha' f1; rw [e'] at hb' f2
  rw [e, e', ← f1, ← f2, round_eq ha', round_eq hb', Core.whole_sign (show Core.Whole i (.fin s c (q + (k : Int))) from ha') hi, Core.whole_sign (show Core.Whole i (.fin t d (r + (k : Int))) from hb') hi]
/-- the quotient of two dyadics, the divisor positive, is the ratio rounded -/
theorem div_val {i j : Int} {k : Nat} {a b : UInt64} (ha : Dy i k a) (hb : Dy j 0 b) (hj : 0 < j) : ∃ s, Core.signed s i.natAbs = i ∧ Core.val64 (FP.ddiv a b) = Core.roundRatio Core.b64 s i.natAbs j.natAbs (-(k : Int)) := by
  obtain ⟨s, c, q, e⟩ := ha.shape
  obtain ⟨t, d, r, e'⟩ := hb.shape
  have ha' := ha; have hb' := hb
  unfold Dy at ha' hb'
  rw [e] at ha'; rw [e', sh_zero] at hb'
  have ha2 : Core.Whole i (.fin s c (q + (k : Int))) := ha'
  have ht : t = false := by rw [Core.whole_sign hb' (by omega)]; simp; omega
  have hd : d ≠ 0 := fun hd => by have := (Core.whole_zero hb').mp hd; omega
  refine ⟨s, sgn_whole ha2, ?_⟩
  rw [show Core.val64 (FP.ddiv a b) = _ from Core.val64_ddiv a b, e, e']
  show (if d = 0 then (if c = 0 then Core.Datum.nan else .inf (s != t)) else Core.roundRatio Core.b64 (s != t) c d (q - r)) = _
  rw [if_neg hd, ht, show (s != false) = s by cases s <;> rfl]
  refine Core.roundRatio_congr (by omega) (by omega) ?_
  have h1 := Core.whole_natAbs ha2
  have h2 := Core.whole_natAbs hb'
  rw [show (q - r - -(k : Int)) = (q + (k : Int)) - r by omega, show (-(k : Int) - (q - r)) = r - (q + (k : Int)) by omega]
  generalize q + (k : Int) = A at h1 ⊢
  generalize i.natAbs = I at h1 ⊢
  generalize j.natAbs = J at h2 ⊢
  refine Nat.eq_of_mul_eq_mul_right (Nat.mul_pos (Nat.two_pow_pos (-A).toNat) (Nat.two_pow_pos r.toNat)) ?_
  have hx : (A - r).toNat + ((-A).toNat + r.toNat) = A.toNat + (-r).toNat + (r - A).toNat := by omega
  calc c * J * 2 ^ (A - r).toNat * (2 ^ (-A).toNat * 2 ^ r.toNat)
      = c * J * 2 ^ ((A - r).toNat + ((-A).toNat + r.toNat)) := by rw [Nat.pow_add, Nat.pow_add]; ac_rfl
    _ = (c * 2 ^ A.toNat) * (J * 2 ^ (-r).toNat) * 2 ^ (r - A).toNat := by rw [hx, Nat.pow_add, Nat.pow_add]; ac_rfl
    _ = (I * 2 ^ (-A).toNat) * (d * 2 ^ r.toNat) * 2 ^ (r - A).toNat := by rw [h1, h2]
    _ = I * d * 2 ^ (r - A).toNat * (2 ^ (-A).toNat * 2 ^ r.toNat) := by ac_rfl
theorem Dy.div {i j m : Int} {k : Nat} {a b : UInt64} (ha : Dy i k a) (hb : Dy j 0 b) (hj : 0 < j) (hm : i = m * j) (h : m.natAbs ≤ 2 ^ 53) (hk : k ≤ 1000) : Dy m k (FP.ddiv a b) := by
  obtain ⟨s, hs, e⟩ := div_val ha hb hj
  unfold Dy
  have hn : i.natAbs = m.natAbs * j.natAbs := by rw [hm, Int.natAbs_mul]
  have e2 : Core.roundRatio Core.b64 s i.natAbs j.natAbs (-(k : Int)) = Core.roundRatio Core.b64 s m.natAbs 1 (-(k : Int)) := by
    refine Core.roundRatio_congr (by omega) (by decide) ?_
    rw [hn, Nat.mul_one]
  rw [e, e2]
  refine whole_ratio s ?_ h hk
  have h3 : Core.signed s i.natAbs = Core.signed s m.natAbs * j := by
    rw [hn, Core.signed_mul, show ((j.natAbs : Nat) : Int) = j by omega]
  rw [hs, hm] at h3
  exact (Int.eq_of_mul_eq_mul_right (by omega) h3).symm
/-- equal ratios, equally rounded -/
theorem div_cmp_eq {i j i' j' : Int} {k k' : Nat} {a b a' b' : UInt64} (ha : Dy i k a) (hb : Dy j 0 b) (hj : 0 < j) (ha' : Dy i' k' a') (hb' : Dy j' 0 b') (hj' : 0 < j') (hk : k ≤ 1000) (hk' : k' ≤ 1000)
    (h : i * j' * (2 ^ k' : Nat) = i' * j * (2 ^ k : Nat)) : FP.dcmp (FP.ddiv a b) (FP.ddiv a' b') = some .eq := by
  by_cases hi : i = 0
  · subst hi
    have hi' : i' = 0 := by
      rw [Int.zero_mul, Int.zero_mul] at h
      have p1 : ((2 ^ k : Nat) : Int) ≠ 0 := by have := Nat.two_pow_pos k; omega
      rcases Int.mul_eq_zero.mp h.symm with q | q
      · rcases Int.mul_eq_zero.mp q with q | q
        · exact q
        · omega
      · exact absurd q p1
    subst hi'
    have d1 := (ha.div hb hj (m := 0) (by omega) (by decide) hk).scale k'
    have d2 := (ha'.div hb' hj' (m := 0) (by omega) (by decide) hk').scale k
    have e2 : k' + k = k + k' := by omega
    rw [Dy.cmp d1 (d2.cast rfl e2)]
    simp [Core.compare_self_int]
  · obtain ⟨s, hs, e⟩ := div_val ha hb hj
    obtain ⟨s', hs', e'⟩ := div_val ha' hb' hj'
    have n1 := congrArg Int.natAbs h
    rw [Int.natAbs_mul, Int.natAbs_mul, Int.natAbs_mul, Int.natAbs_mul, Int.natAbs_natCast, Int.natAbs_natCast] at n1
    have p1 : (0 : Int) < ((2 ^ k : Nat) : Int) := by have := Nat.two_pow_pos k; omega
    have p2 : (0 : Int) < ((2 ^ k' : Nat) : Int) := by have := Nat.two_pow_pos k'; omega
    have hss : s = s' := by
      have q1 : (0 < i ↔ 0 < i') := by
        have a1 : (0 < i * j' * ((2 ^ k' : Nat) : Int)) ↔ 0 < i := by
          rw [Int.mul_assoc]; exact mpos (Int.mul_pos hj' p2)
        have a2 : (0 < i' * j * ((2 ^ k : Nat) : Int)) ↔ 0 < i' := by
          rw [Int.mul_assoc]; exact mpos (Int.mul_pos hj p1)
        rw [← a1, ← a2, h]
      have hi' : i' ≠ 0 := fun z => by
        rw [z, Int.zero_mul, Int.zero_mul] at h
        rcases Int.mul_eq_zero.mp h with q | q
        · rcases Int.mul_eq_zero.mp q with q | q
          · exact hi q
          · omega
        · omega
      unfold Core.signed at hs hs'
      cases s <;> cases s' <;> simp at hs hs' ⊢ <;> omega
    have ev : Core.val64 (FP.ddiv a b) = Core.val64 (FP.ddiv a' b') := by
      rw [e, e', hss]
      refine Core.roundRatio_congr (by omega) (by omega) ?_
      rcases Nat.le_total k k' with q | q
      · obtain ⟨z, rfl⟩ : ∃ z, k' = k + z := ⟨k' - k, by omega⟩
        rw [show (-(k : Int) - -((k + z : Nat) : Int)).toNat = z by omega, show (-((k + z : Nat) : Int) - -(k : Int)).toNat = 0 by omega, Nat.pow_zero, Nat.mul_one]
        rw [Nat.pow_add] at n1
        refine Nat.eq_of_mul_eq_mul_right (Nat.two_pow_pos k) ?_
        rw [← n1]; ac_rfl
      · obtain ⟨z, rfl⟩ : ∃ z, k = k' + z := ⟨k - k', by omega⟩
        rw [show (-((k' + z : Nat) : Int) - -(k' : Int)).toNat = 0 by omega, show (-(k' : Int) - -((k' + z : Nat) : Int)).toNat = z by omega, Nat.pow_zero, Nat.mul_one]
        rw [Nat.pow_add] at n1
        refine Nat.eq_of_mul_eq_mul_right (Nat.two_pow_pos k') ?_
        rw [n1]; ac_rfl
    have nn : Core.val64 (FP.ddiv a b) ≠ .nan := by rw [e]; exact Core.roundRatio_ne_nan _ _ _ _ _
    show Core.order (Core.val64 (FP.ddiv a b)) (Core.val64 (FP.ddiv a' b')) = _
    rw [← ev]
    exact Core.order_self nn
theorem div_noNaN {i j : Int} {k : Nat} {a b : UInt64} (ha : Dy i k a) (hb : Dy j 0 b) (hj : 0 < j) : NoNaN64 (FP.ddiv a b) := by
  obtain ⟨s, hs, e⟩ := div_val ha hb hj
  exact val64_no.mpr (by rw [e]; exact Core.roundRatio_ne_nan _ _ _ _ _)
/-- what dcmpl and dcmpg push -/
theorem cmpV_of (i j : Int) (o : ClassFile.CmpOp) : Op.cmpValue (some (compare i j)) o = if i < j then -1 else if i = j then 0 else 1 := by
  rw [Core.compare_ite]
  by_cases h1 : i < j
  · rw [if_pos h1, if_pos h1]; cases o <;> rfl
  · rw [if_neg h1, if_neg h1]
    by_cases h2 : i = j
    · rw [if_pos h2, if_pos h2]; cases o <;> rfl
    · rw [if_neg h2, if_neg h2]; cases o <;> rfl
theorem Dy.cmpV {i j : Int} {k : Nat} {a b : UInt64} (ha : Dy i k a) (hb : Dy j k b) (o : ClassFile.CmpOp) : Op.cmpValue (FP.dcmp a b) o = if i < j then -1 else if i = j then 0 else 1 := by
  rw [Dy.cmp ha hb]; exact cmpV_of i j o
theorem dy_zero : Dy 0 0 FP.dconst0 := by
  unfold Dy; rw [sh_zero, show Core.val64 FP.dconst0 = .fin false 0 Core.b64.qmin from Core.val64_dconst0]
  show Core.signed false (0 * _) = 0 * _
  rw [Nat.zero_mul, Int.zero_mul]; rfl
theorem dy_one : Dy 1 0 FP.dconst1 := by
  unfold Dy; rw [sh_zero, show Core.val64 FP.dconst1 = .fin false (2 ^ 52) (-52) from Core.val64_dconst1]
  show Core.signed false (2 ^ 52 * 2 ^ (-52 : Int).toNat) = 1 * ((2 ^ (-(-52 : Int)).toNat : Nat) : Int)
  decide
theorem Dy.of_bits {u : UInt64} {c : Nat} {q : Int} {i : Int} {k : Nat} (h : Core.val64 u = .fin false c q) (hi : ((c * 2 ^ (q + k).toNat : Nat) : Int) = i * ((2 ^ (-(q + k)).toNat : Nat) : Int)) : Dy i k u := by
  unfold Dy; rw [h]; exact hi
theorem Dy.maxz {i : Int} {u : UInt64} (h : Dy i 0 u) : Dy (max i 0) 0 (Jvm.Native.java_lang_Math.nans.pick64 true u FP.dconst0) := by
  have e := Dy.cmp h dy_zero
  unfold Jvm.Native.java_lang_Math.nans.pick64
  rw [e, Core.compare_ite]
  by_cases h1 : i < 0
  · rw [if_pos h1]; exact dy_zero.cast (by omega) rfl
  · rw [if_neg h1]
    by_cases h2 : i = 0
    · rw [if_pos h2]
      show Dy (max i 0) 0 (if ((u >>> 63 == 1) == true) = true then FP.dconst0 else u)
      split
      · exact dy_zero.cast (by omega) rfl
      · exact h.cast (by omega) rfl
    · rw [if_neg h2]; exact h.cast (by omega) rfl
theorem Dy.i2d (x : Int32) : Dy x.toInt 0 (FP.i2d x) := Dy.of_int (Core.i2d_int x)
theorem Dy.l2d {x : Int64} (h : x.toInt.natAbs ≤ 2 ^ 53) : Dy x.toInt 0 (FP.l2d x) := Dy.of_int (Core.l2d_int h)
end Jvm.OwnF
namespace Jvm.RoadKit
open Sem ClassFile Op Lib Jvm.Stand Jvm.Free Jvm.LawKit
section New
variable {p : Program} {l : Launch} {e : Env} {R : Room} {s : State} {m : MethodId} {args : Array Value} {below : List Frame} {meth : Method} {c : Code} {T : State} {locs : List Loc} {cells slots : Nat}
theorem retI (X : Stand p l e R s m args below meth c T locs cells slots) (hx : p.tables.exec = Jvm.exec) {pc : Nat} {Ls : Array Slot} {z : Int32} {rest : List Value} (hret : meth.sig.returnType = some .int) (hd : decode c.code pc = .ok (.ireturn, 1)) {fs : List Frame}
    (hl : ∀ (f : JFrame) (acts : List Action), f.method = m → f.locked = none → f.entered = [] → (doReturn e (T.setTop f) acts (some (.int z))).1 = T.setFrames fs) : Steps p.tables e below (T.setTop (mkF m pc Ls (.int z :: rest))) (T.setFrames fs) := by
  have hm' : T.vm.method? m = some meth := X.method'
  have hn : narrow .int (.int z) = .int z := rfl
  show Steps p.tables e below (T.setTop { method := m, pc := pc, locals := Ls, stack := _ :: rest, locked := none }) _
  jvm_step X.here [X.here.top, hx, hd, hm', hret, hn]
  first | (intro acts; rw [hl _ acts rfl rfl rfl]) | rw [hl _ _ rfl rfl rfl]
  exact Steps.refl _
theorem retD (X : Stand p l e R s m args below meth c T locs cells slots) (hx : p.tables.exec = Jvm.exec) {pc : Nat} {Ls : Array Slot} {z : UInt64} {rest : List Value} (hret : meth.sig.returnType = some .double) (hd : decode c.code pc = .ok (.dreturn, 1)) {fs : List Frame}
    (hl : ∀ (f : JFrame) (acts : List Action), f.method = m → f.locked = none → f.entered = [] → (doReturn e (T.setTop f) acts (some (.double z))).1 = T.setFrames fs) : Steps p.tables e below (T.setTop (mkF m pc Ls (.double z :: rest))) (T.setFrames fs) := by
  have hm' : T.vm.method? m = some meth := X.method'
  have hn : narrow .double (.double z) = .double z := rfl
  show Steps p.tables e below (T.setTop { method := m, pc := pc, locals := Ls, stack := _ :: rest, locked := none }) _
  jvm_step X.here [X.here.top, hx, hd, hm', hret, hn]
  first | (intro acts; rw [hl _ acts rfl rfl rfl]) | rw [hl _ _ rfl rfl rfl]
  exact Steps.refl _
theorem retB (X : Stand p l e R s m args below meth c T locs cells slots) (hx : p.tables.exec = Jvm.exec) {pc : Nat} {Ls : Array Slot} {z : Int32} {rest : List Value} (hret : meth.sig.returnType = some .boolean) (hz : z = 0 ∨ z = 1) (hd : decode c.code pc = .ok (.ireturn, 1)) {fs : List Frame}
    (hl : ∀ (f : JFrame) (acts : List Action), f.method = m → f.locked = none → f.entered = [] → (doReturn e (T.setTop f) acts (some (.int z))).1 = T.setFrames fs) : Steps p.tables e below (T.setTop (mkF m pc Ls (.int z :: rest))) (T.setFrames fs) := by
  have q : nar .boolean z = z := by rcases hz with rfl | rfl <;> rfl
  refine retN X hx hret (Or.inl rfl) hd ?_
  rw [q]; exact hl
end New
end Jvm.RoadKit
namespace Jvm.Pilot.@@N@@
open Jvm Jvm.ClassFile Sem Op Lib Jvm.Free Jvm.Stand Jvm.LawKit Jvm.RoadKit Bundle Jvm.Pilot.@@N@@.Jvm.D Jvm.OwnF Jvm.Free.Fl
theorem own_sel (x : Int32) : (x &&& (3 : Int32)) = 0 ∨ (x &&& (3 : Int32)) = 1 ∨ (x &&& (3 : Int32)) = 2 ∨ (x &&& (3 : Int32)) = 3 := by
  have h := c_mask x 3 2 (by decide) (by decide)
  have q : (x &&& (3 : Int32)).toInt = 0 ∨ (x &&& (3 : Int32)).toInt = 1 ∨ (x &&& (3 : Int32)).toInt = 2 ∨ (x &&& (3 : Int32)).toInt = 3 := by omega
  rcases q with q | q | q | q
  · exact Or.inl (Int32.toInt_inj.mp q)
  · exact Or.inr (Or.inl (Int32.toInt_inj.mp q))
  · exact Or.inr (Or.inr (Or.inl (Int32.toInt_inj.mp q)))
  · exact Or.inr (Or.inr (Or.inr (Int32.toInt_inj.mp q)))
theorem own_y20 : Dy 1 20 (4517110426252607488 : UInt64) := Dy.of_bits (c := 4503599627370496) (q := -72) (by decide +kernel) (by decide +kernel)
theorem own_y21 : Dy 1 21 (4512606826625236992 : UInt64) := Dy.of_bits (c := 4503599627370496) (q := -73) (by decide +kernel) (by decide +kernel)
theorem own_y22 : Dy 1 22 (4508103226997866496 : UInt64) := Dy.of_bits (c := 4503599627370496) (q := -74) (by decide +kernel) (by decide +kernel)
theorem own_yE : Dy 4722366482869645 72 (4517329193108106637 : UInt64) := Dy.of_bits (c := 4722366482869645) (q := -72) (by decide +kernel) (by decide +kernel)
theorem own_c0 (d : Int) : d * ((2 ^ (72 - 0) : Nat) : Int) < 4722366482869645 ↔ d ≤ (0 : Int64).toInt := by
  rw [show ((2 ^ (72 - 0) : Nat) : Int) = 4722366482869645213696 by decide, show (0 : Int64).toInt = 0 by decide]; omega
theorem own_c20 (d : Int) : d * ((2 ^ (72 - 20) : Nat) : Int) < 4722366482869645 ↔ d ≤ (1 : Int64).toInt := by
  rw [show ((2 ^ (72 - 20) : Nat) : Int) = 4503599627370496 by decide, show (1 : Int64).toInt = 1 by decide]; omega
theorem own_c21 (d : Int) : d * ((2 ^ (72 - 21) : Nat) : Int) < 4722366482869645 ↔ d ≤ (2 : Int64).toInt := by
  rw [show ((2 ^ (72 - 21) : Nat) : Int) = 2251799813685248 by decide, show (2 : Int64).toInt = 2 by decide]; omega
theorem own_c22 (d : Int) : d * ((2 ^ (72 - 22) : Nat) : Int) < 4722366482869645 ↔ d ≤ (4 : Int64).toInt := by
  rw [show ((2 ^ (72 - 22) : Nat) : Int) = 1125899906842624 by decide, show (4 : Int64).toInt = 4 by decide]; omega
theorem own_fin {p2 : Int32} {lm : Int64} {u : UInt64} {k : Nat} (y : Dy p2.toInt k u) (hk : k ≤ 22) (hcmp : ∀ d : Int, d * ((2 ^ (72 - k) : Nat) : Int) < 4722366482869645 ↔ d ≤ lm.toInt) :
    (if cmpValue (FP.dcmp u (4517329193108106637 : UInt64)) .g < (0 : Int32) then (1 : Int32) else (0 : Int32)) = (if (0 : Int32) < (lcmpW p2.toInt64 lm) then (0 : Int32) else (1 : Int32)) := by
  have y2 := (y.scale (72 - k)).cast rfl (show k + (72 - k) = 72 by omega)
  rw [Dy.cmpV y2 own_yE]
  have h1 := hcmp p2.toInt
  have h2 : (0 : Int32) < (lcmpW p2.toInt64 lm) ↔ lm.toInt < p2.toInt := by rw [lw_gt, Int64.lt_iff_toInt_lt, c_i2l]
  by_cases q : p2.toInt ≤ lm.toInt
  · rw [if_pos (h1.mpr q), if_neg (show ¬ (0 : Int32) < (lcmpW p2.toInt64 lm) from fun z => by have := h2.mp z; omega)]; decide
  · rw [if_neg (fun z => q (h1.mp z)), if_pos (h2.mpr (by omega))]
    split <;> decide


theorem d1_0 : decode prog_83_method_3_code 0 = .ok (.dload_n 2, 1) := by decide +kernel
theorem d1_1 : decode prog_83_method_3_code 1 = .ok (.dload_n 0, 1) := by decide +kernel
theorem d1_2 : decode prog_83_method_3_code 2 = .ok (.dsub, 1) := by decide +kernel
theorem d1_3 : decode prog_83_method_3_code 3 = .ok (.ldc2_w 9, 3) := by decide +kernel
theorem d1_6 : decode prog_83_method_3_code 6 = .ok (.dcmp .g, 1) := by decide +kernel
theorem d1_7 : decode prog_83_method_3_code 7 = .ok (.ifCond .ge 7, 3) := by decide +kernel
theorem d1_10 : decode prog_83_method_3_code 10 = .ok (.iconst 1, 1) := by decide +kernel
theorem d1_11 : decode prog_83_method_3_code 11 = .ok (.goto 4, 3) := by decide +kernel
theorem d1_14 : decode prog_83_method_3_code 14 = .ok (.iconst 0, 1) := by decide +kernel
theorem d1_15 : decode prog_83_method_3_code 15 = .ok (.ireturn, 1) := by decide +kernel
theorem pd_0 : parseMethodDescriptor "(DD)Z" = some ⟨[.double, .double], some .boolean⟩ := by decide +kernel
theorem pn_1 : plainName "com/example/orrery/orrery/learning/Tolerance" = true := by first | (simp [plainName, overriddenIn]; done) | decide +kernel
theorem ef_1 (m : MethodId) (x0 : UInt64) (x1 : UInt64) : entryFrame m #[(.double x0), (.double x1)] 4 = mkF m 0 #[.val (.double x0), .second, .val (.double x1), .second] [] := by first | (simp [entryFrame, mkF, argsToLocals, Value.category]; done) | rfl
def Qm1 (Z : State) (a1 : UInt64) (a2 : UInt64)  (h0 : Heap) (n0 : Nat) (v : Option Value) (h : Heap) (L : List Loc) : Prop := v = some (.int (if cmpValue (FP.dcmp (FP.dsub a2 a1) (4517329193108106637 : UInt64)) .g < (0 : Int32) then (1 : Int32) else (0 : Int32))) ∧ Fr n0 L ∧ h = h0
set_option maxRecDepth 65536 in
set_option maxHeartbeats 40000000 in
theorem rm1 (l : Launch) (Z : State) (a0 : Array Value) (hw : ∀ d ∈ tables_1, d.before a0 Z = true) (ws : List Jvm.Cond) (a1 : UInt64) (a2 : UInt64)  (h0 : Heap) (n0 : Nat) (Z0 : n0 ≤ h0.size) (nn : NoNaN64 (FP.dsub a2 a1)) :
    MetFree l (⟨"com/example/orrery/orrery/learning/Tolerance", "atLeast", "(DD)Z"⟩ : MethodName) (head1 (Jvm.Cond.code (⟨"com/example/orrery/orrery/learning/Tolerance", "atLeast", "(DD)Z"⟩ : MethodName) prog_83_method_3_code 4 (some .boolean) :: ws) ({ frames := 0, cells := 0, slots := 0, locals := 0 } : Room)) (fun a U => a = #[(.double a1), (.double a2)] ∧ Z.Warmed39 U.vm ∧ U.heap = h0) (fun _ _ _ _ _ => True) (fun _ U o U' => ∃ v L, o = .returned v ∧ Qm1 Z a1 a2 h0 n0 v U'.heap L ∧ FrameEnd U o U' L ({ frames := 0, cells := 0, slots := 0, locals := 0 } : Room).cells ({ frames := 0, cells := 0, slots := 0, locals := 0 } : Room).slots) := by
  refine MetFree.of_bodySF (plainFor_of_name pn_1) hisR ?_
  intro p e s m args below meth c s₁ Bd hml0 hP hK
  obtain ⟨rfl, hZ, hh⟩ := hP
  have hx := Bd.exec
  have hby := Bd.bytes
  have hml : c.maxLocals = 4 := hml0
  have hown : s.vm.findClass "com/example/orrery/orrery/learning/Tolerance" = some m.cls := findClass_of_methodNamed Bd.named
  have hnm := (name_of_methodNamed Bd.named Bd.method).1
  have X0 : Stand p l e ({ frames := 0, cells := 0, slots := 0, locals := 0 } : Room) s m #[(.double a1), (.double a2)] below meth c s₁ [] 0 0 := Stand.of_body Bd
  have e0 : s₁.heap = h0 := by rw [← hh, Bd.state]; rfl
  have N0 := Fr.nil n0
  have pre0 : ∀ t, Steps p.tables e below (s₁.setTop (mkF m 0 #[.val (.double a1), .second, .val (.double a2), .second] [])) t → Steps p.tables e below (s₁.setTop (entryFrame m #[(.double a1), (.double a2)] 4)) t := fun t k => castTop (ef_1 m a1 a2) k
  obtain ⟨S0, hS0⟩ : ∃ z, z = s₁.setTop (mkF m 0 #[.val (.double a1), .second, .val (.double a2), .second] []) := ⟨_, rfl⟩
  have r0 : Steps p.tables e below S0 (s₁.setTop (mkF m 0 #[.val (.double a1), .second, .val (.double a2), .second] [])) := by rw [hS0]; exact Steps.refl _
  obtain ⟨dq, hdq⟩ : ∃ z, FP.dsub a2 a1 = z := ⟨_, rfl⟩
  have r1 : Steps p.tables e below S0 (s₁.setTop (mkF m 7 #[.val (.double a1), .second, .val (.double a2), .second] [(.int (cmpValue (FP.dcmp dq (4517329193108106637 : UInt64)) .g))])) := by
    refine r0.trans ?_
    show Steps p.tables e below (s₁.setTop (mkF m 0 #[.val (.double a1), .second, .val (.double a2), .second] [])) _
    refine XS.dloadN X0.here hx rfl (hb hby d1_0) rfl ?_
    show Steps p.tables e below (s₁.setTop (mkF m 1 #[.val (.double a1), .second, .val (.double a2), .second] [(.double a2)])) _
    refine XS.dloadN X0.here hx rfl (hb hby d1_1) rfl ?_
    show Steps p.tables e below (s₁.setTop (mkF m 2 #[.val (.double a1), .second, .val (.double a2), .second] [(.double a1), (.double a2)])) _
    refine XS.dsubS X0.here hx rfl (hb hby d1_2) rfl (nn) hdq ?_
    show Steps p.tables e below (s₁.setTop (mkF m 3 #[.val (.double a1), .second, .val (.double a2), .second] [(.double dq)])) _
    refine X0.ldc2DoubleC hx hown (mvT hZ (hw _ (List.mem_of_getElem? (i := 6) rfl))) (g := (mkF m 3 #[.val (.double a1), .second, .val (.double a2), .second] [(.double dq)])) rfl (hb hby d1_3) _ ?_
    show Steps p.tables e below (s₁.setTop (mkF m 6 #[.val (.double a1), .second, .val (.double a2), .second] [(.double (4517329193108106637 : UInt64)), (.double dq)])) _
    refine XS.dcmpS X0.here hx rfl (hb hby d1_6) rfl rfl ?_
    exact Steps.refl _
  have r5 : Steps p.tables e below S0 (s₁.setTop (mkF m 15 #[.val (.double a1), .second, .val (.double a2), .second] [(.int (if (cmpValue (FP.dcmp dq (4517329193108106637 : UInt64)) .g) < (0 : Int32) then (1 : Int32) else (0 : Int32)))])) := by
    refine r1.trans ?_
    by_cases hf2 : (cmpValue (FP.dcmp dq (4517329193108106637 : UInt64)) .g) < (0 : Int32)
    · skip
      rw [show (if (cmpValue (FP.dcmp dq (4517329193108106637 : UInt64)) .g) < (0 : Int32) then (1 : Int32) else (0 : Int32)) = (1 : Int32) from if_pos hf2]
      have q0 : Steps p.tables e below (s₁.setTop (mkF m 7 #[.val (.double a1), .second, .val (.double a2), .second] [(.int (cmpValue (FP.dcmp dq (4517329193108106637 : UInt64)) .g))])) (s₁.setTop (mkF m 7 #[.val (.double a1), .second, .val (.double a2), .second] [(.int (cmpValue (FP.dcmp dq (4517329193108106637 : UInt64)) .g))])) := Steps.refl _
      have r3 : Steps p.tables e below (s₁.setTop (mkF m 7 #[.val (.double a1), .second, .val (.double a2), .second] [(.int (cmpValue (FP.dcmp dq (4517329193108106637 : UInt64)) .g))])) (s₁.setTop (mkF m 15 #[.val (.double a1), .second, .val (.double a2), .second] [(.int (1 : Int32))])) := by
        refine q0.trans ?_
        show Steps p.tables e below (s₁.setTop (mkF m 7 #[.val (.double a1), .second, .val (.double a2), .second] [(.int (cmpValue (FP.dcmp dq (4517329193108106637 : UInt64)) .g))])) _
        refine XS.ifNo X0.here hx rfl (hb hby d1_7) rfl ((if0 _ _).trans (tlt hf2).2.1) ?_
        show Steps p.tables e below (s₁.setTop (mkF m 10 #[.val (.double a1), .second, .val (.double a2), .second] [])) _
        refine XS.iconst X0.here hx rfl (hb hby d1_10) ?_
        show Steps p.tables e below (s₁.setTop (mkF m 11 #[.val (.double a1), .second, .val (.double a2), .second] [(.int (1 : Int32))])) _
        refine XS.goto X0.here hx rfl (pc0 := 11) (pc' := 15) rfl (hb hby d1_11) (by decide) (by decide) ?_
        exact Steps.refl _
      exact r3
    · skip
      rw [show (if (cmpValue (FP.dcmp dq (4517329193108106637 : UInt64)) .g) < (0 : Int32) then (1 : Int32) else (0 : Int32)) = (0 : Int32) from if_neg hf2]
      have q0 : Steps p.tables e below (s₁.setTop (mkF m 7 #[.val (.double a1), .second, .val (.double a2), .second] [(.int (cmpValue (FP.dcmp dq (4517329193108106637 : UInt64)) .g))])) (s₁.setTop (mkF m 7 #[.val (.double a1), .second, .val (.double a2), .second] [(.int (cmpValue (FP.dcmp dq (4517329193108106637 : UInt64)) .g))])) := Steps.refl _
      have r4 : Steps p.tables e below (s₁.setTop (mkF m 7 #[.val (.double a1), .second, .val (.double a2), .second] [(.int (cmpValue (FP.dcmp dq (4517329193108106637 : UInt64)) .g))])) (s₁.setTop (mkF m 15 #[.val (.double a1), .second, .val (.double a2), .second] [(.int (0 : Int32))])) := by
        refine q0.trans ?_
        show Steps p.tables e below (s₁.setTop (mkF m 7 #[.val (.double a1), .second, .val (.double a2), .second] [(.int (cmpValue (FP.dcmp dq (4517329193108106637 : UInt64)) .g))])) _
        refine XS.ifYes X0.here hx rfl (pc0 := 7) (pc' := 14) rfl (hb hby d1_7) rfl ((if0 _ _).trans (flt hf2).2.1) (by decide) (by decide) ?_
        show Steps p.tables e below (s₁.setTop (mkF m 14 #[.val (.double a1), .second, .val (.double a2), .second] [])) _
        refine XS.iconst X0.here hx rfl (hb hby d1_14) ?_
        exact Steps.refl _
      exact r4
  obtain ⟨fs, hr, hrun, hended, hW, hsame⟩ := X0.leave (v := some (.int (if (cmpValue (FP.dcmp dq (4517329193108106637 : UInt64)) .g) < (0 : Int32) then (1 : Int32) else (0 : Int32)))) (fun h => by rw [Bd.returns] at h; cases h)
  refine ⟨_, _, pre0 _ ?_, hrun, hended, _, _, rfl, ?_, ⟨_, rfl⟩, hW, hsame.mono (by decide) (by decide)⟩
  · rw [← hS0]
    refine r5.trans ?_
    show Steps p.tables e below (s₁.setTop (mkF m 15 #[.val (.double a1), .second, .val (.double a2), .second] [(.int (if (cmpValue (FP.dcmp dq (4517329193108106637 : UInt64)) .g) < (0 : Int32) then (1 : Int32) else (0 : Int32)))])) _
    exact retB X0 hx Bd.returns (by first | exact Or.inr rfl | exact Or.inl rfl | (split <;> simp)) (hb hby d1_15) hr
  · subst hdq; exact ⟨rfl, N0, e0⟩
theorem pn_0 : plainName "com/example/orrery/orrery/learning/ToleranceAtLeastPinLaw" = true := by first | (simp [plainName, overriddenIn]; done) | decide +kernel
theorem ef_0 (m : MethodId) (x0 : Int32) (x1 : Int32) (x2 : Int32) : entryFrame m #[(.int x0), (.int x1), (.int x2)] maxLocals = mkF m 0 #[.val (.int x0), .val (.int x1), .val (.int x2), .unset, .unset, .unset, .unset, .unset, .unset, .unset, .unset, .unset, .unset] [] := by first | (simp [entryFrame, mkF, argsToLocals, Value.category, maxLocals]; done) | rfl
def Qm0 (Z : State) (p1 : Int32) (p2 : Int32) (p3 : Int32)  (h0 : Heap) (n0 : Nat) (v : Option Value) (h : Heap) (L : List Loc) : Prop := v = some (.int 1) ∧ Fr n0 L
set_option maxRecDepth 65536 in
set_option maxHeartbeats 40000000 in
theorem rm0 (l : Launch) (Z : State) (a0 : Array Value) (hw : ∀ d ∈ tables_1, d.before a0 Z = true) (ws : List Jvm.Cond) (p1 : Int32) (p2 : Int32) (p3 : Int32)  (h0 : Heap) (n0 : Nat) (Z0 : n0 ≤ h0.size)  :
    MetFree l x (head1 (Jvm.Cond.code x code maxLocals ret :: ws) room_1) (fun a U => a = #[(.int p1), (.int p2), (.int p3)] ∧ Z.Warmed39 U.vm ∧ U.heap = h0) (fun _ _ _ _ _ => True) (fun _ U o U' => ∃ v L, o = .returned v ∧ Qm0 Z p1 p2 p3 h0 n0 v U'.heap L ∧ FrameEnd U o U' L room_1.cells room_1.slots) := by
  refine MetFree.of_bodySF (plainFor_of_name pn_0) hisR ?_
  intro p e s m args below meth c s₁ Bd hml0 hP hK
  obtain ⟨rfl, hZ, hh⟩ := hP
  have hx := Bd.exec
  have hby := Bd.bytes
  have hml : c.maxLocals = 13 := hml0
  have hown : s.vm.findClass "com/example/orrery/orrery/learning/ToleranceAtLeastPinLaw" = some m.cls := findClass_of_methodNamed Bd.named
  have hnm := (name_of_methodNamed Bd.named Bd.method).1
  have X0 : Stand p l e room_1 s m #[(.int p1), (.int p2), (.int p3)] below meth c s₁ [] 0 0 := Stand.of_body Bd
  have e0 : s₁.heap = h0 := by rw [← hh, Bd.state]; rfl
  have N0 := Fr.nil n0
  have pre0 : ∀ t, Steps p.tables e below (s₁.setTop (mkF m 0 #[.val (.int p1), .val (.int p2), .val (.int p3), .unset, .unset, .unset, .unset, .unset, .unset, .unset, .unset, .unset, .unset] [])) t → Steps p.tables e below (s₁.setTop (entryFrame m #[(.int p1), (.int p2), (.int p3)] maxLocals)) t := fun t k => castTop (ef_0 m p1 p2 p3) k
  obtain ⟨S0, hS0⟩ : ∃ z, z = s₁.setTop (mkF m 0 #[.val (.int p1), .val (.int p2), .val (.int p3), .unset, .unset, .unset, .unset, .unset, .unset, .unset, .unset, .unset, .unset] []) := ⟨_, rfl⟩
  have r0 : Steps p.tables e below S0 (s₁.setTop (mkF m 0 #[.val (.int p1), .val (.int p2), .val (.int p3), .unset, .unset, .unset, .unset, .unset, .unset, .unset, .unset, .unset, .unset] [])) := by rw [hS0]; exact Steps.refl _
  have b1 := rng32 p1
  have b2 := rng32 p2
  have r6 : Steps p.tables e below S0 (s₁.setTop (mkF m 5 #[.val (.int p1), .val (.int p2), .val (.int p3), .val (.int (p3 &&& (3 : Int32))), .unset, .unset, .unset, .unset, .unset, .unset, .unset, .unset, .unset] [(.int (p3 &&& (3 : Int32)))])) := by
    refine r0.trans ?_
    show Steps p.tables e below (s₁.setTop (mkF m 0 #[.val (.int p1), .val (.int p2), .val (.int p3), .unset, .unset, .unset, .unset, .unset, .unset, .unset, .unset, .unset, .unset] [])) _
    refine XS.iloadN X0.here hx rfl (hb hby at_0) rfl ?_
    show Steps p.tables e below (s₁.setTop (mkF m 1 #[.val (.int p1), .val (.int p2), .val (.int p3), .unset, .unset, .unset, .unset, .unset, .unset, .unset, .unset, .unset, .unset] [(.int p3)])) _
    refine XS.iconst X0.here hx rfl (hb hby at_1) ?_
    show Steps p.tables e below (s₁.setTop (mkF m 2 #[.val (.int p1), .val (.int p2), .val (.int p3), .unset, .unset, .unset, .unset, .unset, .unset, .unset, .unset, .unset, .unset] [(.int (3 : Int32)), (.int p3)])) _
    refine XS.iand X0.here hx rfl (hb hby at_2) rfl ?_
    show Steps p.tables e below (s₁.setTop (mkF m 3 #[.val (.int p1), .val (.int p2), .val (.int p3), .unset, .unset, .unset, .unset, .unset, .unset, .unset, .unset, .unset, .unset] [(.int (p3 &&& (3 : Int32)))])) _
    refine XS.istoreN X0.here hx rfl (hb hby at_3) rfl (l' := #[.val (.int p1), .val (.int p2), .val (.int p3), .val (.int (p3 &&& (3 : Int32))), .unset, .unset, .unset, .unset, .unset, .unset, .unset, .unset, .unset]) rfl ?_
    show Steps p.tables e below (s₁.setTop (mkF m 4 #[.val (.int p1), .val (.int p2), .val (.int p3), .val (.int (p3 &&& (3 : Int32))), .unset, .unset, .unset, .unset, .unset, .unset, .unset, .unset, .unset] [])) _
    refine XS.iloadN X0.here hx rfl (hb hby at_4) rfl ?_
    exact Steps.refl _
  have hs4 : (p3 &&& (3 : Int32)) = 0 ∨ (p3 &&& (3 : Int32)) = 1 ∨ (p3 &&& (3 : Int32)) = 2 ∨ (p3 &&& (3 : Int32)) = 3 := own_sel p3
  obtain ⟨sc, lm, k, yk, hk, hcmp, rM⟩ : ∃ (sc : UInt64) (lm : Int64) (k : Nat), Dy 1 k sc ∧ k ≤ 22 ∧ (∀ d : Int, d * ((2 ^ (72 - k) : Nat) : Int) < 4722366482869645 ↔ d ≤ lm.toInt) ∧ Steps p.tables e below S0 (s₁.setTop (mkF m 61 #[.val (.int p1), .val (.int p2), .val (.int p3), .val (.int (p3 &&& (3 : Int32))), .val (.double sc), .second, .val (.long lm), .second, .unset, .unset, .unset, .unset, .unset] [])) := by
    rcases hs4 with hs | hs | hs | hs
    · skip
      have r7 : Steps p.tables e below S0 (s₁.setTop (mkF m 61 #[.val (.int p1), .val (.int p2), .val (.int p3), .val (.int (p3 &&& (3 : Int32))), .val (.double FP.dconst1), .second, .val (.long (0 : Int64)), .second, .unset, .unset, .unset, .unset, .unset] [])) := by
        refine r6.trans ?_
        show Steps p.tables e below (s₁.setTop (mkF m 5 #[.val (.int p1), .val (.int p2), .val (.int p3), .val (.int (p3 &&& (3 : Int32))), .unset, .unset, .unset, .unset, .unset, .unset, .unset, .unset, .unset] [(.int (p3 &&& (3 : Int32)))])) _
        refine XS.ifNo X0.here hx rfl (hb hby at_5) rfl ((if0 _ _).trans (teq (by rw [hs] <;> decide)).2) ?_
        show Steps p.tables e below (s₁.setTop (mkF m 8 #[.val (.int p1), .val (.int p2), .val (.int p3), .val (.int (p3 &&& (3 : Int32))), .unset, .unset, .unset, .unset, .unset, .unset, .unset, .unset, .unset] [])) _
        refine XS.dconst1 X0.here hx rfl (hb hby at_8) rfl ?_
        show Steps p.tables e below (s₁.setTop (mkF m 9 #[.val (.int p1), .val (.int p2), .val (.int p3), .val (.int (p3 &&& (3 : Int32))), .unset, .unset, .unset, .unset, .unset, .unset, .unset, .unset, .unset] [(.double FP.dconst1)])) _
        refine XS.dstore X0.here hx rfl (hb hby at_9) rfl (l' := #[.val (.int p1), .val (.int p2), .val (.int p3), .val (.int (p3 &&& (3 : Int32))), .val (.double FP.dconst1), .second, .unset, .unset, .unset, .unset, .unset, .unset, .unset]) rfl ?_
        show Steps p.tables e below (s₁.setTop (mkF m 11 #[.val (.int p1), .val (.int p2), .val (.int p3), .val (.int (p3 &&& (3 : Int32))), .val (.double FP.dconst1), .second, .unset, .unset, .unset, .unset, .unset, .unset, .unset] [])) _
        refine XS.lconst X0.here hx rfl (hb hby at_11) ?_
        show Steps p.tables e below (s₁.setTop (mkF m 12 #[.val (.int p1), .val (.int p2), .val (.int p3), .val (.int (p3 &&& (3 : Int32))), .val (.double FP.dconst1), .second, .unset, .unset, .unset, .unset, .unset, .unset, .unset] [(.long (0 : Int64))])) _
        refine XS.lstore X0.here hx rfl (hb hby at_12) rfl (l' := #[.val (.int p1), .val (.int p2), .val (.int p3), .val (.int (p3 &&& (3 : Int32))), .val (.double FP.dconst1), .second, .val (.long (0 : Int64)), .second, .unset, .unset, .unset, .unset, .unset]) rfl ?_
        show Steps p.tables e below (s₁.setTop (mkF m 14 #[.val (.int p1), .val (.int p2), .val (.int p3), .val (.int (p3 &&& (3 : Int32))), .val (.double FP.dconst1), .second, .val (.long (0 : Int64)), .second, .unset, .unset, .unset, .unset, .unset] [])) _
        refine XS.goto X0.here hx rfl (pc0 := 14) (pc' := 61) rfl (hb hby at_14) (by decide) (by decide) ?_
        exact Steps.refl _
      exact ⟨FP.dconst1, (0 : Int64), 0, dy_one, by decide, own_c0, r7⟩
    · skip
      have r8 : Steps p.tables e below S0 (s₁.setTop (mkF m 61 #[.val (.int p1), .val (.int p2), .val (.int p3), .val (.int (p3 &&& (3 : Int32))), .val (.double (4517110426252607488 : UInt64)), .second, .val (.long (1 : Int64)), .second, .unset, .unset, .unset, .unset, .unset] [])) := by
        refine r6.trans ?_
        show Steps p.tables e below (s₁.setTop (mkF m 5 #[.val (.int p1), .val (.int p2), .val (.int p3), .val (.int (p3 &&& (3 : Int32))), .unset, .unset, .unset, .unset, .unset, .unset, .unset, .unset, .unset] [(.int (p3 &&& (3 : Int32)))])) _
        refine XS.ifYes X0.here hx rfl (pc0 := 5) (pc' := 17) rfl (hb hby at_5) rfl ((if0 _ _).trans (feq (by rw [hs] <;> decide)).2) (by decide) (by decide) ?_
        show Steps p.tables e below (s₁.setTop (mkF m 17 #[.val (.int p1), .val (.int p2), .val (.int p3), .val (.int (p3 &&& (3 : Int32))), .unset, .unset, .unset, .unset, .unset, .unset, .unset, .unset, .unset] [])) _
        refine XS.iloadN X0.here hx rfl (hb hby at_17) rfl ?_
        show Steps p.tables e below (s₁.setTop (mkF m 18 #[.val (.int p1), .val (.int p2), .val (.int p3), .val (.int (p3 &&& (3 : Int32))), .unset, .unset, .unset, .unset, .unset, .unset, .unset, .unset, .unset] [(.int (p3 &&& (3 : Int32)))])) _
        refine XS.iconst X0.here hx rfl (hb hby at_18) ?_
        show Steps p.tables e below (s₁.setTop (mkF m 19 #[.val (.int p1), .val (.int p2), .val (.int p3), .val (.int (p3 &&& (3 : Int32))), .unset, .unset, .unset, .unset, .unset, .unset, .unset, .unset, .unset] [(.int (1 : Int32)), (.int (p3 &&& (3 : Int32)))])) _
        refine XS.icmpNo X0.here hx rfl (hb hby at_19) rfl (teq (by rw [hs] <;> decide)).2 ?_
        show Steps p.tables e below (s₁.setTop (mkF m 22 #[.val (.int p1), .val (.int p2), .val (.int p3), .val (.int (p3 &&& (3 : Int32))), .unset, .unset, .unset, .unset, .unset, .unset, .unset, .unset, .unset] [])) _
        refine X0.ldc2DoubleC hx hown (mvT hZ (hw _ (List.mem_of_getElem? (i := 9) rfl))) (g := (mkF m 22 #[.val (.int p1), .val (.int p2), .val (.int p3), .val (.int (p3 &&& (3 : Int32))), .unset, .unset, .unset, .unset, .unset, .unset, .unset, .unset, .unset] [])) rfl (hb hby at_22) _ ?_
        show Steps p.tables e below (s₁.setTop (mkF m 25 #[.val (.int p1), .val (.int p2), .val (.int p3), .val (.int (p3 &&& (3 : Int32))), .unset, .unset, .unset, .unset, .unset, .unset, .unset, .unset, .unset] [(.double (4517110426252607488 : UInt64))])) _
        refine XS.dstore X0.here hx rfl (hb hby at_25) rfl (l' := #[.val (.int p1), .val (.int p2), .val (.int p3), .val (.int (p3 &&& (3 : Int32))), .val (.double (4517110426252607488 : UInt64)), .second, .unset, .unset, .unset, .unset, .unset, .unset, .unset]) rfl ?_
        show Steps p.tables e below (s₁.setTop (mkF m 27 #[.val (.int p1), .val (.int p2), .val (.int p3), .val (.int (p3 &&& (3 : Int32))), .val (.double (4517110426252607488 : UInt64)), .second, .unset, .unset, .unset, .unset, .unset, .unset, .unset] [])) _
        refine XS.lconst X0.here hx rfl (hb hby at_27) ?_
        show Steps p.tables e below (s₁.setTop (mkF m 28 #[.val (.int p1), .val (.int p2), .val (.int p3), .val (.int (p3 &&& (3 : Int32))), .val (.double (4517110426252607488 : UInt64)), .second, .unset, .unset, .unset, .unset, .unset, .unset, .unset] [(.long (1 : Int64))])) _
        refine XS.lstore X0.here hx rfl (hb hby at_28) rfl (l' := #[.val (.int p1), .val (.int p2), .val (.int p3), .val (.int (p3 &&& (3 : Int32))), .val (.double (4517110426252607488 : UInt64)), .second, .val (.long (1 : Int64)), .second, .unset, .unset, .unset, .unset, .unset]) rfl ?_
        show Steps p.tables e below (s₁.setTop (mkF m 30 #[.val (.int p1), .val (.int p2), .val (.int p3), .val (.int (p3 &&& (3 : Int32))), .val (.double (4517110426252607488 : UInt64)), .second, .val (.long (1 : Int64)), .second, .unset, .unset, .unset, .unset, .unset] [])) _
        refine XS.goto X0.here hx rfl (pc0 := 30) (pc' := 61) rfl (hb hby at_30) (by decide) (by decide) ?_
        exact Steps.refl _
      exact ⟨(4517110426252607488 : UInt64), (1 : Int64), 20, own_y20, by decide, own_c20, r8⟩
    · skip
      have r9 : Steps p.tables e below S0 (s₁.setTop (mkF m 61 #[.val (.int p1), .val (.int p2), .val (.int p3), .val (.int (p3 &&& (3 : Int32))), .val (.double (4512606826625236992 : UInt64)), .second, .val (.long (2 : Int64)), .second, .unset, .unset, .unset, .unset, .unset] [])) := by
        refine r6.trans ?_
        show Steps p.tables e below (s₁.setTop (mkF m 5 #[.val (.int p1), .val (.int p2), .val (.int p3), .val (.int (p3 &&& (3 : Int32))), .unset, .unset, .unset, .unset, .unset, .unset, .unset, .unset, .unset] [(.int (p3 &&& (3 : Int32)))])) _
        refine XS.ifYes X0.here hx rfl (pc0 := 5) (pc' := 17) rfl (hb hby at_5) rfl ((if0 _ _).trans (feq (by rw [hs] <;> decide)).2) (by decide) (by decide) ?_
        show Steps p.tables e below (s₁.setTop (mkF m 17 #[.val (.int p1), .val (.int p2), .val (.int p3), .val (.int (p3 &&& (3 : Int32))), .unset, .unset, .unset, .unset, .unset, .unset, .unset, .unset, .unset] [])) _
        refine XS.iloadN X0.here hx rfl (hb hby at_17) rfl ?_
        show Steps p.tables e below (s₁.setTop (mkF m 18 #[.val (.int p1), .val (.int p2), .val (.int p3), .val (.int (p3 &&& (3 : Int32))), .unset, .unset, .unset, .unset, .unset, .unset, .unset, .unset, .unset] [(.int (p3 &&& (3 : Int32)))])) _
        refine XS.iconst X0.here hx rfl (hb hby at_18) ?_
        show Steps p.tables e below (s₁.setTop (mkF m 19 #[.val (.int p1), .val (.int p2), .val (.int p3), .val (.int (p3 &&& (3 : Int32))), .unset, .unset, .unset, .unset, .unset, .unset, .unset, .unset, .unset] [(.int (1 : Int32)), (.int (p3 &&& (3 : Int32)))])) _
        refine XS.icmpYes X0.here hx rfl (pc0 := 19) (pc' := 33) rfl (hb hby at_19) rfl (feq (by rw [hs] <;> decide)).2 (by decide) (by decide) ?_
        show Steps p.tables e below (s₁.setTop (mkF m 33 #[.val (.int p1), .val (.int p2), .val (.int p3), .val (.int (p3 &&& (3 : Int32))), .unset, .unset, .unset, .unset, .unset, .unset, .unset, .unset, .unset] [])) _
        refine XS.iloadN X0.here hx rfl (hb hby at_33) rfl ?_
        show Steps p.tables e below (s₁.setTop (mkF m 34 #[.val (.int p1), .val (.int p2), .val (.int p3), .val (.int (p3 &&& (3 : Int32))), .unset, .unset, .unset, .unset, .unset, .unset, .unset, .unset, .unset] [(.int (p3 &&& (3 : Int32)))])) _
        refine XS.iconst X0.here hx rfl (hb hby at_34) ?_
        show Steps p.tables e below (s₁.setTop (mkF m 35 #[.val (.int p1), .val (.int p2), .val (.int p3), .val (.int (p3 &&& (3 : Int32))), .unset, .unset, .unset, .unset, .unset, .unset, .unset, .unset, .unset] [(.int (2 : Int32)), (.int (p3 &&& (3 : Int32)))])) _
        refine XS.icmpNo X0.here hx rfl (hb hby at_35) rfl (teq (by rw [hs] <;> decide)).2 ?_
        show Steps p.tables e below (s₁.setTop (mkF m 38 #[.val (.int p1), .val (.int p2), .val (.int p3), .val (.int (p3 &&& (3 : Int32))), .unset, .unset, .unset, .unset, .unset, .unset, .unset, .unset, .unset] [])) _
        refine X0.ldc2DoubleC hx hown (mvT hZ (hw _ (List.mem_of_getElem? (i := 0) rfl))) (g := (mkF m 38 #[.val (.int p1), .val (.int p2), .val (.int p3), .val (.int (p3 &&& (3 : Int32))), .unset, .unset, .unset, .unset, .unset, .unset, .unset, .unset, .unset] [])) rfl (hb hby at_38) _ ?_
        show Steps p.tables e below (s₁.setTop (mkF m 41 #[.val (.int p1), .val (.int p2), .val (.int p3), .val (.int (p3 &&& (3 : Int32))), .unset, .unset, .unset, .unset, .unset, .unset, .unset, .unset, .unset] [(.double (4512606826625236992 : UInt64))])) _
        refine XS.dstore X0.here hx rfl (hb hby at_41) rfl (l' := #[.val (.int p1), .val (.int p2), .val (.int p3), .val (.int (p3 &&& (3 : Int32))), .val (.double (4512606826625236992 : UInt64)), .second, .unset, .unset, .unset, .unset, .unset, .unset, .unset]) rfl ?_
        show Steps p.tables e below (s₁.setTop (mkF m 43 #[.val (.int p1), .val (.int p2), .val (.int p3), .val (.int (p3 &&& (3 : Int32))), .val (.double (4512606826625236992 : UInt64)), .second, .unset, .unset, .unset, .unset, .unset, .unset, .unset] [])) _
        refine X0.ldc2Long hx hown (mvT hZ (hw _ (List.mem_of_getElem? (i := 1) rfl))) (g := (mkF m 43 #[.val (.int p1), .val (.int p2), .val (.int p3), .val (.int (p3 &&& (3 : Int32))), .val (.double (4512606826625236992 : UInt64)), .second, .unset, .unset, .unset, .unset, .unset, .unset, .unset] [])) rfl (hb hby at_43) _ ?_
        show Steps p.tables e below (s₁.setTop (mkF m 46 #[.val (.int p1), .val (.int p2), .val (.int p3), .val (.int (p3 &&& (3 : Int32))), .val (.double (4512606826625236992 : UInt64)), .second, .unset, .unset, .unset, .unset, .unset, .unset, .unset] [(.long (2 : Int64))])) _
        refine XS.lstore X0.here hx rfl (hb hby at_46) rfl (l' := #[.val (.int p1), .val (.int p2), .val (.int p3), .val (.int (p3 &&& (3 : Int32))), .val (.double (4512606826625236992 : UInt64)), .second, .val (.long (2 : Int64)), .second, .unset, .unset, .unset, .unset, .unset]) rfl ?_
        show Steps p.tables e below (s₁.setTop (mkF m 48 #[.val (.int p1), .val (.int p2), .val (.int p3), .val (.int (p3 &&& (3 : Int32))), .val (.double (4512606826625236992 : UInt64)), .second, .val (.long (2 : Int64)), .second, .unset, .unset, .unset, .unset, .unset] [])) _
        refine XS.goto X0.here hx rfl (pc0 := 48) (pc' := 61) rfl (hb hby at_48) (by decide) (by decide) ?_
        exact Steps.refl _
      exact ⟨(4512606826625236992 : UInt64), (2 : Int64), 21, own_y21, by decide, own_c21, r9⟩
    · skip
      have r10 : Steps p.tables e below S0 (s₁.setTop (mkF m 61 #[.val (.int p1), .val (.int p2), .val (.int p3), .val (.int (p3 &&& (3 : Int32))), .val (.double (4508103226997866496 : UInt64)), .second, .val (.long (4 : Int64)), .second, .unset, .unset, .unset, .unset, .unset] [])) := by
        refine r6.trans ?_
        show Steps p.tables e below (s₁.setTop (mkF m 5 #[.val (.int p1), .val (.int p2), .val (.int p3), .val (.int (p3 &&& (3 : Int32))), .unset, .unset, .unset, .unset, .unset, .unset, .unset, .unset, .unset] [(.int (p3 &&& (3 : Int32)))])) _
        refine XS.ifYes X0.here hx rfl (pc0 := 5) (pc' := 17) rfl (hb hby at_5) rfl ((if0 _ _).trans (feq (by rw [hs] <;> decide)).2) (by decide) (by decide) ?_
        show Steps p.tables e below (s₁.setTop (mkF m 17 #[.val (.int p1), .val (.int p2), .val (.int p3), .val (.int (p3 &&& (3 : Int32))), .unset, .unset, .unset, .unset, .unset, .unset, .unset, .unset, .unset] [])) _
        refine XS.iloadN X0.here hx rfl (hb hby at_17) rfl ?_
        show Steps p.tables e below (s₁.setTop (mkF m 18 #[.val (.int p1), .val (.int p2), .val (.int p3), .val (.int (p3 &&& (3 : Int32))), .unset, .unset, .unset, .unset, .unset, .unset, .unset, .unset, .unset] [(.int (p3 &&& (3 : Int32)))])) _
        refine XS.iconst X0.here hx rfl (hb hby at_18) ?_
        show Steps p.tables e below (s₁.setTop (mkF m 19 #[.val (.int p1), .val (.int p2), .val (.int p3), .val (.int (p3 &&& (3 : Int32))), .unset, .unset, .unset, .unset, .unset, .unset, .unset, .unset, .unset] [(.int (1 : Int32)), (.int (p3 &&& (3 : Int32)))])) _
        refine XS.icmpYes X0.here hx rfl (pc0 := 19) (pc' := 33) rfl (hb hby at_19) rfl (feq (by rw [hs] <;> decide)).2 (by decide) (by decide) ?_
        show Steps p.tables e below (s₁.setTop (mkF m 33 #[.val (.int p1), .val (.int p2), .val (.int p3), .val (.int (p3 &&& (3 : Int32))), .unset, .unset, .unset, .unset, .unset, .unset, .unset, .unset, .unset] [])) _
        refine XS.iloadN X0.here hx rfl (hb hby at_33) rfl ?_
        show Steps p.tables e below (s₁.setTop (mkF m 34 #[.val (.int p1), .val (.int p2), .val (.int p3), .val (.int (p3 &&& (3 : Int32))), .unset, .unset, .unset, .unset, .unset, .unset, .unset, .unset, .unset] [(.int (p3 &&& (3 : Int32)))])) _
        refine XS.iconst X0.here hx rfl (hb hby at_34) ?_
        show Steps p.tables e below (s₁.setTop (mkF m 35 #[.val (.int p1), .val (.int p2), .val (.int p3), .val (.int (p3 &&& (3 : Int32))), .unset, .unset, .unset, .unset, .unset, .unset, .unset, .unset, .unset] [(.int (2 : Int32)), (.int (p3 &&& (3 : Int32)))])) _
        refine XS.icmpYes X0.here hx rfl (pc0 := 35) (pc' := 51) rfl (hb hby at_35) rfl (feq (by rw [hs] <;> decide)).2 (by decide) (by decide) ?_
        show Steps p.tables e below (s₁.setTop (mkF m 51 #[.val (.int p1), .val (.int p2), .val (.int p3), .val (.int (p3 &&& (3 : Int32))), .unset, .unset, .unset, .unset, .unset, .unset, .unset, .unset, .unset] [])) _
        refine X0.ldc2DoubleC hx hown (mvT hZ (hw _ (List.mem_of_getElem? (i := 7) rfl))) (g := (mkF m 51 #[.val (.int p1), .val (.int p2), .val (.int p3), .val (.int (p3 &&& (3 : Int32))), .unset, .unset, .unset, .unset, .unset, .unset, .unset, .unset, .unset] [])) rfl (hb hby at_51) _ ?_
        show Steps p.tables e below (s₁.setTop (mkF m 54 #[.val (.int p1), .val (.int p2), .val (.int p3), .val (.int (p3 &&& (3 : Int32))), .unset, .unset, .unset, .unset, .unset, .unset, .unset, .unset, .unset] [(.double (4508103226997866496 : UInt64))])) _
        refine XS.dstore X0.here hx rfl (hb hby at_54) rfl (l' := #[.val (.int p1), .val (.int p2), .val (.int p3), .val (.int (p3 &&& (3 : Int32))), .val (.double (4508103226997866496 : UInt64)), .second, .unset, .unset, .unset, .unset, .unset, .unset, .unset]) rfl ?_
        show Steps p.tables e below (s₁.setTop (mkF m 56 #[.val (.int p1), .val (.int p2), .val (.int p3), .val (.int (p3 &&& (3 : Int32))), .val (.double (4508103226997866496 : UInt64)), .second, .unset, .unset, .unset, .unset, .unset, .unset, .unset] [])) _
        refine X0.ldc2Long hx hown (mvT hZ (hw _ (List.mem_of_getElem? (i := 8) rfl))) (g := (mkF m 56 #[.val (.int p1), .val (.int p2), .val (.int p3), .val (.int (p3 &&& (3 : Int32))), .val (.double (4508103226997866496 : UInt64)), .second, .unset, .unset, .unset, .unset, .unset, .unset, .unset] [])) rfl (hb hby at_56) _ ?_
        show Steps p.tables e below (s₁.setTop (mkF m 59 #[.val (.int p1), .val (.int p2), .val (.int p3), .val (.int (p3 &&& (3 : Int32))), .val (.double (4508103226997866496 : UInt64)), .second, .unset, .unset, .unset, .unset, .unset, .unset, .unset] [(.long (4 : Int64))])) _
        refine XS.lstore X0.here hx rfl (hb hby at_59) rfl (l' := #[.val (.int p1), .val (.int p2), .val (.int p3), .val (.int (p3 &&& (3 : Int32))), .val (.double (4508103226997866496 : UInt64)), .second, .val (.long (4 : Int64)), .second, .unset, .unset, .unset, .unset, .unset]) rfl ?_
        exact Steps.refl _
      exact ⟨(4508103226997866496 : UInt64), (4 : Int64), 22, own_y22, by decide, own_c22, r10⟩
  have hsum : (p1.toInt64 + p2.toInt64).toInt = p1.toInt + p2.toInt := by have q := c_ladd p1.toInt64 p2.toInt64; rw [c_i2l, c_i2l] at q; have := rng64 (p1.toInt64 + p2.toInt64); omega
  obtain ⟨da, hda⟩ : ∃ z, FP.dmul (FP.i2d p1) sc = z := ⟨_, rfl⟩
  have yda : Dy (p1.toInt * 1) (0 + k) da := hda ▸ ((Dy.i2d p1).mul yk (by omega) (by omega))
  obtain ⟨db, hdb⟩ : ∃ z, FP.dmul (FP.l2d ((p1.toInt64) + (p2.toInt64))) sc = z := ⟨_, rfl⟩
  have ydb : Dy ((p1.toInt64 + p2.toInt64).toInt * 1) (0 + k) db := hdb ▸ ((Dy.l2d (by rw [hsum]; omega)).mul yk (by rw [hsum]; omega) (by omega))
  have r11 : Steps p.tables e below S0 (s₁.setTop (mkF m 84 #[.val (.int p1), .val (.int p2), .val (.int p3), .val (.int (p3 &&& (3 : Int32))), .val (.double sc), .second, .val (.long lm), .second, .val (.double da), .second, .val (.double db), .second, .unset] [(.int (lcmpW (p2.toInt64) lm))])) := by
    refine rM.trans ?_
    show Steps p.tables e below (s₁.setTop (mkF m 61 #[.val (.int p1), .val (.int p2), .val (.int p3), .val (.int (p3 &&& (3 : Int32))), .val (.double sc), .second, .val (.long lm), .second, .unset, .unset, .unset, .unset, .unset] [])) _
    refine XS.iloadN X0.here hx rfl (hb hby at_61) rfl ?_
    show Steps p.tables e below (s₁.setTop (mkF m 62 #[.val (.int p1), .val (.int p2), .val (.int p3), .val (.int (p3 &&& (3 : Int32))), .val (.double sc), .second, .val (.long lm), .second, .unset, .unset, .unset, .unset, .unset] [(.int p1)])) _
    refine XS.i2dS X0.here hx rfl (hb hby at_62) rfl rfl ?_
    show Steps p.tables e below (s₁.setTop (mkF m 63 #[.val (.int p1), .val (.int p2), .val (.int p3), .val (.int (p3 &&& (3 : Int32))), .val (.double sc), .second, .val (.long lm), .second, .unset, .unset, .unset, .unset, .unset] [(.double (FP.i2d p1))])) _
    refine XS.dload X0.here hx rfl (hb hby at_63) rfl ?_
    show Steps p.tables e below (s₁.setTop (mkF m 65 #[.val (.int p1), .val (.int p2), .val (.int p3), .val (.int (p3 &&& (3 : Int32))), .val (.double sc), .second, .val (.long lm), .second, .unset, .unset, .unset, .unset, .unset] [(.double sc), (.double (FP.i2d p1))])) _
    refine XS.dmulS X0.here hx rfl (hb hby at_65) rfl (by rw [hda]; exact yda.noNaN) hda ?_
    show Steps p.tables e below (s₁.setTop (mkF m 66 #[.val (.int p1), .val (.int p2), .val (.int p3), .val (.int (p3 &&& (3 : Int32))), .val (.double sc), .second, .val (.long lm), .second, .unset, .unset, .unset, .unset, .unset] [(.double da)])) _
    refine XS.dstore X0.here hx rfl (hb hby at_66) rfl (l' := #[.val (.int p1), .val (.int p2), .val (.int p3), .val (.int (p3 &&& (3 : Int32))), .val (.double sc), .second, .val (.long lm), .second, .val (.double da), .second, .unset, .unset, .unset]) rfl ?_
    show Steps p.tables e below (s₁.setTop (mkF m 68 #[.val (.int p1), .val (.int p2), .val (.int p3), .val (.int (p3 &&& (3 : Int32))), .val (.double sc), .second, .val (.long lm), .second, .val (.double da), .second, .unset, .unset, .unset] [])) _
    refine XS.iloadN X0.here hx rfl (hb hby at_68) rfl ?_
    show Steps p.tables e below (s₁.setTop (mkF m 69 #[.val (.int p1), .val (.int p2), .val (.int p3), .val (.int (p3 &&& (3 : Int32))), .val (.double sc), .second, .val (.long lm), .second, .val (.double da), .second, .unset, .unset, .unset] [(.int p1)])) _
    refine XS.i2l X0.here hx rfl (hb hby at_69) rfl ?_
    show Steps p.tables e below (s₁.setTop (mkF m 70 #[.val (.int p1), .val (.int p2), .val (.int p3), .val (.int (p3 &&& (3 : Int32))), .val (.double sc), .second, .val (.long lm), .second, .val (.double da), .second, .unset, .unset, .unset] [(.long (p1.toInt64))])) _
    refine XS.iloadN X0.here hx rfl (hb hby at_70) rfl ?_
    show Steps p.tables e below (s₁.setTop (mkF m 71 #[.val (.int p1), .val (.int p2), .val (.int p3), .val (.int (p3 &&& (3 : Int32))), .val (.double sc), .second, .val (.long lm), .second, .val (.double da), .second, .unset, .unset, .unset] [(.int p2), (.long (p1.toInt64))])) _
    refine XS.i2l X0.here hx rfl (hb hby at_71) rfl ?_
    show Steps p.tables e below (s₁.setTop (mkF m 72 #[.val (.int p1), .val (.int p2), .val (.int p3), .val (.int (p3 &&& (3 : Int32))), .val (.double sc), .second, .val (.long lm), .second, .val (.double da), .second, .unset, .unset, .unset] [(.long (p2.toInt64)), (.long (p1.toInt64))])) _
    refine XS.ladd X0.here hx rfl (hb hby at_72) rfl ?_
    show Steps p.tables e below (s₁.setTop (mkF m 73 #[.val (.int p1), .val (.int p2), .val (.int p3), .val (.int (p3 &&& (3 : Int32))), .val (.double sc), .second, .val (.long lm), .second, .val (.double da), .second, .unset, .unset, .unset] [(.long ((p1.toInt64) + (p2.toInt64)))])) _
    refine XS.l2dS X0.here hx rfl (hb hby at_73) rfl rfl ?_
    show Steps p.tables e below (s₁.setTop (mkF m 74 #[.val (.int p1), .val (.int p2), .val (.int p3), .val (.int (p3 &&& (3 : Int32))), .val (.double sc), .second, .val (.long lm), .second, .val (.double da), .second, .unset, .unset, .unset] [(.double (FP.l2d ((p1.toInt64) + (p2.toInt64))))])) _
    refine XS.dload X0.here hx rfl (hb hby at_74) rfl ?_
    show Steps p.tables e below (s₁.setTop (mkF m 76 #[.val (.int p1), .val (.int p2), .val (.int p3), .val (.int (p3 &&& (3 : Int32))), .val (.double sc), .second, .val (.long lm), .second, .val (.double da), .second, .unset, .unset, .unset] [(.double sc), (.double (FP.l2d ((p1.toInt64) + (p2.toInt64))))])) _
    refine XS.dmulS X0.here hx rfl (hb hby at_76) rfl (by rw [hdb]; exact ydb.noNaN) hdb ?_
    show Steps p.tables e below (s₁.setTop (mkF m 77 #[.val (.int p1), .val (.int p2), .val (.int p3), .val (.int (p3 &&& (3 : Int32))), .val (.double sc), .second, .val (.long lm), .second, .val (.double da), .second, .unset, .unset, .unset] [(.double db)])) _
    refine XS.dstore X0.here hx rfl (hb hby at_77) rfl (l' := #[.val (.int p1), .val (.int p2), .val (.int p3), .val (.int (p3 &&& (3 : Int32))), .val (.double sc), .second, .val (.long lm), .second, .val (.double da), .second, .val (.double db), .second, .unset]) rfl ?_
    show Steps p.tables e below (s₁.setTop (mkF m 79 #[.val (.int p1), .val (.int p2), .val (.int p3), .val (.int (p3 &&& (3 : Int32))), .val (.double sc), .second, .val (.long lm), .second, .val (.double da), .second, .val (.double db), .second, .unset] [])) _
    refine XS.iloadN X0.here hx rfl (hb hby at_79) rfl ?_
    show Steps p.tables e below (s₁.setTop (mkF m 80 #[.val (.int p1), .val (.int p2), .val (.int p3), .val (.int (p3 &&& (3 : Int32))), .val (.double sc), .second, .val (.long lm), .second, .val (.double da), .second, .val (.double db), .second, .unset] [(.int p2)])) _
    refine XS.i2l X0.here hx rfl (hb hby at_80) rfl ?_
    show Steps p.tables e below (s₁.setTop (mkF m 81 #[.val (.int p1), .val (.int p2), .val (.int p3), .val (.int (p3 &&& (3 : Int32))), .val (.double sc), .second, .val (.long lm), .second, .val (.double da), .second, .val (.double db), .second, .unset] [(.long (p2.toInt64))])) _
    refine XS.lload X0.here hx rfl (hb hby at_81) rfl ?_
    show Steps p.tables e below (s₁.setTop (mkF m 83 #[.val (.int p1), .val (.int p2), .val (.int p3), .val (.int (p3 &&& (3 : Int32))), .val (.double sc), .second, .val (.long lm), .second, .val (.double da), .second, .val (.double db), .second, .unset] [(.long lm), (.long (p2.toInt64))])) _
    refine XS.lcmp X0.here hx rfl (hb hby at_83) rfl ?_
    exact Steps.refl _
  have r15 : Steps p.tables e below S0 (s₁.setTop (mkF m 92 #[.val (.int p1), .val (.int p2), .val (.int p3), .val (.int (p3 &&& (3 : Int32))), .val (.double sc), .second, .val (.long lm), .second, .val (.double da), .second, .val (.double db), .second, .unset] [(.int (if (0 : Int32) < (lcmpW (p2.toInt64) lm) then (0 : Int32) else (1 : Int32)))])) := by
    refine r11.trans ?_
    by_cases hf12 : (0 : Int32) < (lcmpW (p2.toInt64) lm)
    · skip
      rw [show (if (0 : Int32) < (lcmpW (p2.toInt64) lm) then (0 : Int32) else (1 : Int32)) = (0 : Int32) from if_pos hf12]
      have q0 : Steps p.tables e below (s₁.setTop (mkF m 84 #[.val (.int p1), .val (.int p2), .val (.int p3), .val (.int (p3 &&& (3 : Int32))), .val (.double sc), .second, .val (.long lm), .second, .val (.double da), .second, .val (.double db), .second, .unset] [(.int (lcmpW (p2.toInt64) lm))])) (s₁.setTop (mkF m 84 #[.val (.int p1), .val (.int p2), .val (.int p3), .val (.int (p3 &&& (3 : Int32))), .val (.double sc), .second, .val (.long lm), .second, .val (.double da), .second, .val (.double db), .second, .unset] [(.int (lcmpW (p2.toInt64) lm))])) := Steps.refl _
      have r13 : Steps p.tables e below (s₁.setTop (mkF m 84 #[.val (.int p1), .val (.int p2), .val (.int p3), .val (.int (p3 &&& (3 : Int32))), .val (.double sc), .second, .val (.long lm), .second, .val (.double da), .second, .val (.double db), .second, .unset] [(.int (lcmpW (p2.toInt64) lm))])) (s₁.setTop (mkF m 92 #[.val (.int p1), .val (.int p2), .val (.int p3), .val (.int (p3 &&& (3 : Int32))), .val (.double sc), .second, .val (.long lm), .second, .val (.double da), .second, .val (.double db), .second, .unset] [(.int (0 : Int32))])) := by
        refine q0.trans ?_
        show Steps p.tables e below (s₁.setTop (mkF m 84 #[.val (.int p1), .val (.int p2), .val (.int p3), .val (.int (p3 &&& (3 : Int32))), .val (.double sc), .second, .val (.long lm), .second, .val (.double da), .second, .val (.double db), .second, .unset] [(.int (lcmpW (p2.toInt64) lm))])) _
        refine XS.ifYes X0.here hx rfl (pc0 := 84) (pc' := 91) rfl (hb hby at_84) rfl ((if0 _ _).trans (tlt hf12).2.2.1) (by decide) (by decide) ?_
        show Steps p.tables e below (s₁.setTop (mkF m 91 #[.val (.int p1), .val (.int p2), .val (.int p3), .val (.int (p3 &&& (3 : Int32))), .val (.double sc), .second, .val (.long lm), .second, .val (.double da), .second, .val (.double db), .second, .unset] [])) _
        refine XS.iconst X0.here hx rfl (hb hby at_91) ?_
        exact Steps.refl _
      exact r13
    · skip
      rw [show (if (0 : Int32) < (lcmpW (p2.toInt64) lm) then (0 : Int32) else (1 : Int32)) = (1 : Int32) from if_neg hf12]
      have q0 : Steps p.tables e below (s₁.setTop (mkF m 84 #[.val (.int p1), .val (.int p2), .val (.int p3), .val (.int (p3 &&& (3 : Int32))), .val (.double sc), .second, .val (.long lm), .second, .val (.double da), .second, .val (.double db), .second, .unset] [(.int (lcmpW (p2.toInt64) lm))])) (s₁.setTop (mkF m 84 #[.val (.int p1), .val (.int p2), .val (.int p3), .val (.int (p3 &&& (3 : Int32))), .val (.double sc), .second, .val (.long lm), .second, .val (.double da), .second, .val (.double db), .second, .unset] [(.int (lcmpW (p2.toInt64) lm))])) := Steps.refl _
      have r14 : Steps p.tables e below (s₁.setTop (mkF m 84 #[.val (.int p1), .val (.int p2), .val (.int p3), .val (.int (p3 &&& (3 : Int32))), .val (.double sc), .second, .val (.long lm), .second, .val (.double da), .second, .val (.double db), .second, .unset] [(.int (lcmpW (p2.toInt64) lm))])) (s₁.setTop (mkF m 92 #[.val (.int p1), .val (.int p2), .val (.int p3), .val (.int (p3 &&& (3 : Int32))), .val (.double sc), .second, .val (.long lm), .second, .val (.double da), .second, .val (.double db), .second, .unset] [(.int (1 : Int32))])) := by
        refine q0.trans ?_
        show Steps p.tables e below (s₁.setTop (mkF m 84 #[.val (.int p1), .val (.int p2), .val (.int p3), .val (.int (p3 &&& (3 : Int32))), .val (.double sc), .second, .val (.long lm), .second, .val (.double da), .second, .val (.double db), .second, .unset] [(.int (lcmpW (p2.toInt64) lm))])) _
        refine XS.ifNo X0.here hx rfl (hb hby at_84) rfl ((if0 _ _).trans (flt hf12).2.2.1) ?_
        show Steps p.tables e below (s₁.setTop (mkF m 87 #[.val (.int p1), .val (.int p2), .val (.int p3), .val (.int (p3 &&& (3 : Int32))), .val (.double sc), .second, .val (.long lm), .second, .val (.double da), .second, .val (.double db), .second, .unset] [])) _
        refine XS.iconst X0.here hx rfl (hb hby at_87) ?_
        show Steps p.tables e below (s₁.setTop (mkF m 88 #[.val (.int p1), .val (.int p2), .val (.int p3), .val (.int (p3 &&& (3 : Int32))), .val (.double sc), .second, .val (.long lm), .second, .val (.double da), .second, .val (.double db), .second, .unset] [(.int (1 : Int32))])) _
        refine XS.goto X0.here hx rfl (pc0 := 88) (pc' := 92) rfl (hb hby at_88) (by decide) (by decide) ?_
        exact Steps.refl _
      exact r14
  have r16 : Steps p.tables e below S0 (s₁.setTop (mkF m 98 #[.val (.int p1), .val (.int p2), .val (.int p3), .val (.int (p3 &&& (3 : Int32))), .val (.double sc), .second, .val (.long lm), .second, .val (.double da), .second, .val (.double db), .second, .val (.int (if (0 : Int32) < (lcmpW (p2.toInt64) lm) then (0 : Int32) else (1 : Int32)))] [(.double db), (.double da)])) := by
    refine r15.trans ?_
    show Steps p.tables e below (s₁.setTop (mkF m 92 #[.val (.int p1), .val (.int p2), .val (.int p3), .val (.int (p3 &&& (3 : Int32))), .val (.double sc), .second, .val (.long lm), .second, .val (.double da), .second, .val (.double db), .second, .unset] [(.int (if (0 : Int32) < (lcmpW (p2.toInt64) lm) then (0 : Int32) else (1 : Int32)))])) _
    refine XS.istore X0.here hx rfl (hb hby at_92) rfl (l' := #[.val (.int p1), .val (.int p2), .val (.int p3), .val (.int (p3 &&& (3 : Int32))), .val (.double sc), .second, .val (.long lm), .second, .val (.double da), .second, .val (.double db), .second, .val (.int (if (0 : Int32) < (lcmpW (p2.toInt64) lm) then (0 : Int32) else (1 : Int32)))]) rfl ?_
    show Steps p.tables e below (s₁.setTop (mkF m 94 #[.val (.int p1), .val (.int p2), .val (.int p3), .val (.int (p3 &&& (3 : Int32))), .val (.double sc), .second, .val (.long lm), .second, .val (.double da), .second, .val (.double db), .second, .val (.int (if (0 : Int32) < (lcmpW (p2.toInt64) lm) then (0 : Int32) else (1 : Int32)))] [])) _
    refine XS.dload X0.here hx rfl (hb hby at_94) rfl ?_
    show Steps p.tables e below (s₁.setTop (mkF m 96 #[.val (.int p1), .val (.int p2), .val (.int p3), .val (.int (p3 &&& (3 : Int32))), .val (.double sc), .second, .val (.long lm), .second, .val (.double da), .second, .val (.double db), .second, .val (.int (if (0 : Int32) < (lcmpW (p2.toInt64) lm) then (0 : Int32) else (1 : Int32)))] [(.double da)])) _
    refine XS.dload X0.here hx rfl (hb hby at_96) rfl ?_
    exact Steps.refl _
  have ysub := ydb.sub yda (by rw [hsum]; omega) (by omega)
  obtain ⟨_, _, ⟨T17, L17, k17, n17⟩, -, X17, ⟨Lc17, hQ17, l17, y17, z17⟩, st17⟩ := Jvm.LawKit.callS X0 hx (y := (⟨"com/example/orrery/orrery/learning/Tolerance", "atLeast", "(DD)Z"⟩ : MethodName)) hown (mvT hZ (hw _ (List.mem_of_getElem? (i := 2) rfl))) (mvT hZ (hw _ (List.mem_of_getElem? (i := 3) rfl))) (mvT hZ (hw _ (List.mem_of_getElem? (i := 4) rfl))) (mvT hZ (hw _ (List.mem_of_getElem? (i := 5) rfl))) (by decide) (backOf (W := 0) (rm1 l Z a0 hw [] da db h0 n0 Z0 ysub.noNaN) hZ (hw _ (List.mem_of_getElem? (i := 5) rfl)) (hw _ (List.mem_of_getElem? (i := 4) rfl)) (by decide) (by decide)) (g := (mkF m 98 #[.val (.int p1), .val (.int p2), .val (.int p3), .val (.int (p3 &&& (3 : Int32))), .val (.double sc), .second, .val (.long lm), .second, .val (.double da), .second, .val (.double db), .second, .val (.int (if (0 : Int32) < (lcmpW (p2.toInt64) lm) then (0 : Int32) else (1 : Int32)))] [(.double db), (.double da)])) rfl (by rw [hml]; rfl) (argsL := [(.double da), (.double db)]) (rest := []) (lenOf pd_0 rfl) rfl (by show 2 * 0 + _ ≤ _; exact Nat.le_of_eq rfl) (hb hby at_98) (fun _ _ => ⟨rfl, e0, (by decide : 0 + 0 ≤ _), (by decide : 0 + 0 ≤ _)⟩)
  dsimp only [Pt.U, Pt.locs, Pt.cells, Pt.slots] at X17 l17 y17 z17 st17 hQ17
  subst l17 y17 z17
  obtain ⟨rfl, Nq17, e17⟩ := hQ17
  have N17 := Fr.app N0 Nq17
  have r18 : Steps p.tables e below S0 (T17.setTop (mkF m 101 #[.val (.int p1), .val (.int p2), .val (.int p3), .val (.int (p3 &&& (3 : Int32))), .val (.double sc), .second, .val (.long lm), .second, .val (.double da), .second, .val (.double db), .second, .val (.int (if (0 : Int32) < (lcmpW (p2.toInt64) lm) then (0 : Int32) else (1 : Int32)))] [(.int (if cmpValue (FP.dcmp (FP.dsub db da) (4517329193108106637 : UInt64)) .g < (0 : Int32) then (1 : Int32) else (0 : Int32)))])) := r16.trans (st17 _ (Steps.refl _))
  have heq : (if cmpValue (FP.dcmp (FP.dsub db da) (4517329193108106637 : UInt64)) .g < (0 : Int32) then (1 : Int32) else (0 : Int32)) = (if (0 : Int32) < (lcmpW (p2.toInt64) lm) then (0 : Int32) else (1 : Int32)) := own_fin (ysub.cast (by rw [hsum]; omega) (Nat.zero_add k)) hk hcmp
  have r19 : Steps p.tables e below S0 (T17.setTop (mkF m 111 #[.val (.int p1), .val (.int p2), .val (.int p3), .val (.int (p3 &&& (3 : Int32))), .val (.double sc), .second, .val (.long lm), .second, .val (.double da), .second, .val (.double db), .second, .val (.int (if (0 : Int32) < (lcmpW (p2.toInt64) lm) then (0 : Int32) else (1 : Int32)))] [(.int (1 : Int32))])) := by
    refine r18.trans ?_
    show Steps p.tables e below (T17.setTop (mkF m 101 #[.val (.int p1), .val (.int p2), .val (.int p3), .val (.int (p3 &&& (3 : Int32))), .val (.double sc), .second, .val (.long lm), .second, .val (.double da), .second, .val (.double db), .second, .val (.int (if (0 : Int32) < (lcmpW (p2.toInt64) lm) then (0 : Int32) else (1 : Int32)))] [(.int (if cmpValue (FP.dcmp (FP.dsub db da) (4517329193108106637 : UInt64)) .g < (0 : Int32) then (1 : Int32) else (0 : Int32)))])) _
    refine XS.iload X17.here hx rfl (hb hby at_101) rfl ?_
    show Steps p.tables e below (T17.setTop (mkF m 103 #[.val (.int p1), .val (.int p2), .val (.int p3), .val (.int (p3 &&& (3 : Int32))), .val (.double sc), .second, .val (.long lm), .second, .val (.double da), .second, .val (.double db), .second, .val (.int (if (0 : Int32) < (lcmpW (p2.toInt64) lm) then (0 : Int32) else (1 : Int32)))] [(.int (if (0 : Int32) < (lcmpW (p2.toInt64) lm) then (0 : Int32) else (1 : Int32))), (.int (if cmpValue (FP.dcmp (FP.dsub db da) (4517329193108106637 : UInt64)) .g < (0 : Int32) then (1 : Int32) else (0 : Int32)))])) _
    refine XS.icmpNo X17.here hx rfl (hb hby at_103) rfl (teq heq).2 ?_
    show Steps p.tables e below (T17.setTop (mkF m 106 #[.val (.int p1), .val (.int p2), .val (.int p3), .val (.int (p3 &&& (3 : Int32))), .val (.double sc), .second, .val (.long lm), .second, .val (.double da), .second, .val (.double db), .second, .val (.int (if (0 : Int32) < (lcmpW (p2.toInt64) lm) then (0 : Int32) else (1 : Int32)))] [])) _
    refine XS.iconst X17.here hx rfl (hb hby at_106) ?_
    show Steps p.tables e below (T17.setTop (mkF m 107 #[.val (.int p1), .val (.int p2), .val (.int p3), .val (.int (p3 &&& (3 : Int32))), .val (.double sc), .second, .val (.long lm), .second, .val (.double da), .second, .val (.double db), .second, .val (.int (if (0 : Int32) < (lcmpW (p2.toInt64) lm) then (0 : Int32) else (1 : Int32)))] [(.int (1 : Int32))])) _
    refine XS.goto X17.here hx rfl (pc0 := 107) (pc' := 111) rfl (hb hby at_107) (by decide) (by decide) ?_
    exact Steps.refl _
  obtain ⟨fs, hr, hrun, hended, hW, hsame⟩ := X17.leave (v := some (.int (1 : Int32))) (fun h => by rw [Bd.returns] at h; cases h)
  refine ⟨_, _, pre0 _ ?_, hrun, hended, _, _, rfl, ?_, ⟨_, rfl⟩, hW, hsame.mono (by decide) (by decide)⟩
  · rw [← hS0]
    refine r19.trans ?_
    show Steps p.tables e below (T17.setTop (mkF m 111 #[.val (.int p1), .val (.int p2), .val (.int p3), .val (.int (p3 &&& (3 : Int32))), .val (.double sc), .second, .val (.long lm), .second, .val (.double da), .second, .val (.double db), .second, .val (.int (if (0 : Int32) < (lcmpW (p2.toInt64) lm) then (0 : Int32) else (1 : Int32)))] [(.int (1 : Int32))])) _
    exact retB X17 hx Bd.returns (by first | exact Or.inr rfl | exact Or.inl rfl | (split <;> simp)) (hb hby at_111) hr
  · exact ⟨rfl, N17⟩
set_option maxRecDepth 65536 in
set_option maxHeartbeats 40000000 in
theorem comes_1 {Post : Tables → Env → Array Value → State → Outcome → State → Prop} (hpost : ∀ tb e args s v u, (limb_1_1.after args s (.returned v) u = true ∧ limb_1_2.after args s (.returned v) u = true ∧ True) → FrameEnd s (.returned v) u (Jvm.fieldLocs frame_1_writes args s ++ Jvm.arrayLocs frame_1_arrays args s ++ Jvm.staticLocs frame_1_statics s) 0 0 → Post tb e args s (.returned v) u) :
    ArmFor flags0 classFile x code maxLocals ret World_1 tables_1 room_1 Calls_1 rest_1 Pre_1 Post := by
  intro l hfl _ _ p e ha hc hk s m args below hf hA hF happ hP
  obtain ⟨hcalls, hrest, hpre⟩ := hP
  obtain ⟨-, -, -, hnamed, -, -, -, hat⟩ := (Spec.applies_iff hf).mp happ
  obtain ⟨hg, hn⟩ := and_e (Cond.before_iff.mp (show (Jvm.Cond.and given_1 narrow_1).before args s = true from hpre))
  obtain ⟨g0, hg⟩ := and_e hg
  obtain ⟨ga0, hg⟩ := and_e hg
  obtain ⟨ga1, hg⟩ := and_e hg
  have ga2 := hg
  obtain ⟨w0, w1, w2, rfl⟩ : ∃ w0 w1 w2 : Value, args = #[w0, w1, w2] := by
    have hs : args.size = 3 := by simpa [Cond.value, given_1] using g0
    obtain ⟨L⟩ := args
    match L, hs with
    | [w0, w1, w2], _ => exact ⟨w0, w1, w2, rfl⟩
  have hw := fun d (hd : d ∈ tables_1) => atoms_spec (ws := Jvm.Cond.code x code maxLocals ret :: tables_1) hat d (List.mem_cons_of_mem _ hd)
  have hfit : Fit s := fun {y c} hc i hi => by
    obtain ⟨ha, rfl⟩ := Array.getElem?_eq_some_iff.mp hc
    have q := List.all_eq_true.mp ((Array.all_eq_true_iff_forall_mem.mp hF) _ (Array.getElem_mem ha)) i (List.mem_range.mpr hi)
    simpa [Array.getElem?_eq_getElem hi] using q
  obtain ⟨i0, ei0⟩ := is_v ga0
  obtain rfl : w0 = (.int i0) := Option.some.inj ei0
  obtain ⟨i1, ei1⟩ := is_v ga1
  obtain rfl : w1 = (.int i1) := Option.some.inj ei1
  obtain ⟨i2, ei2⟩ := is_v ga2
  obtain rfl : w2 = (.int i2) := Option.some.inj ei2
  obtain ⟨n, o, h1, h2, h3, _, L, rfl, ⟨rfl, N⟩, hq⟩ := rm0 l s _ hw tables_1 i0 i1 i2 s.heap s.heap.size (Nat.le_refl _)  p e ha hc hk s m _ below hf ((Spec.applies_iff_loose hf).mp happ).1 ⟨rfl, State.Warmed39.refl s, rfl⟩ trivial
  refine ⟨n, _, h1, h2, h3, hpost _ _ _ _ _ _ ⟨Cond.after_iff.mpr rfl, Cond.after_iff.mpr (eq_i res_at (Term.int_eval (1)) rfl), trivial⟩ ⟨hq.1, hq.2.1, (hq.2.2.sift fun y hy => Or.inr (N y hy)).mono (by decide) (by decide)⟩⟩
theorem main_1_1 : Claimed_1_1 := comes_1 fun _ _ _ _ _ _ h hF => ⟨h.1, hF⟩
theorem main_1_2 : Claimed_1_2 := comes_1 fun _ _ _ _ _ _ h hF => ⟨h.2.1, hF⟩
end Jvm.Pilot.@@N@@
namespace Jvm.Pilot.@@N@@
open Jvm Jvm.ClassFile Sem Op Lib Jvm.Free Jvm.Stand Jvm.Pilot.@@N@@.Jvm.D
/-! MADE BY PROGRAM (witnessworld.py) out of the Statement's table words and the real class files: 9 classes; the members and pool entries that the words name. The judged class is class 1, her method 1. -/
namespace start1
open Jvm.ClassFile
def u (s : String) : CpInfo := .utf8 (stringToUtf16 s)
/-- a pool by its gaps: so many unusable entries, then the entry; so many at the end -/
def gap : Nat → List CpInfo → List CpInfo
  | 0, r => r
  | n + 1, r => .unusable :: gap n r
def poolList (es : List (Nat × CpInfo)) (last : Nat) : List CpInfo := es.foldr (fun e r => gap e.1 (e.2 :: r)) (gap last [])
def pool (es : List (Nat × CpInfo)) (last : Nat) : Array CpInfo := ⟨poolList es last⟩
def fileOf (pool : Array CpInfo) (this : Nat) (attrs : Array Attribute := #[]) (ms : Array MethodInfo := #[]) (fl : Nat := 33) (sup : Nat := 0) (ifs : Array Nat := #[]) (fds : Array FieldInfo := #[]) : ClassFile where
  minorVersion := 0
  majorVersion := 65
  constantPool := pool
  accessFlags := fl
  thisClass := this
  superClass := sup
  interfaces := ifs
  fields := fds
  methods := ms
  attributes := attrs
def plain (name : String) (sup : Option ClassId) : Class where
  name := name
  kind := .ordinary
  loader := none
  accessFlags := 33
  super := sup
  interfaces := #[]
  cf := none
  fields := #[]
  methods := #[]
  instanceTypes := #[]
  staticTypes := #[]
  resolved := #[]
  callSites := []
  init := .initialized
  statics := none
  mirror := none

def pool0 : Array CpInfo := pool [(5, u "<init>"), (0, u "()V"), (1, .class_ 10), (1, u "java/lang/Object")] 113

def k0m0 : Method := { name := "<init>", desc := "()V", sig := { parameters := [], returnType := none }, accessFlags := 1, code := none }
/-- java/lang/Object -/
def k0 : Class := { plain "java/lang/Object" none with
  accessFlags := 33
  interfaces := #[]
  cf := some (fileOf pool0 8 #[] #[{ accessFlags := 1, nameIndex := 5, descriptorIndex := 6, attributes := #[] }] 33 0 #[] #[])
  fields := #[]
  methods := #[k0m0]
  instanceTypes := #[]
  staticTypes := #[]
  resolved := Array.replicate 124 none
  statics := none }

def pool1 : Array CpInfo := pool [(2, .class_ 4), (1, u "java/lang/Object"), (0, u "<init>"), (0, u "()V"), (0, .double 4517110426252607488), (1, .double 4512606826625236992), (1, .long 2), (1, .double 4508103226997866496), (1, .long 4), (1, .methodref 18 19), (0, .class_ 20), (0, .nameAndType 21 22), (0, u "com/example/orrery/orrery/learning/Tolerance"), (0, u "atLeast"), (0, u "(DD)Z"), (0, .class_ 24), (0, u "com/example/orrery/orrery/learning/ToleranceAtLeastPinLaw"), (2, u "law"), (0, u "(III)Z")] 3

def k1m0 : Method := { name := "<init>", desc := "()V", sig := { parameters := [], returnType := none }, accessFlags := 2, code := none }
def k1c1 : Code := { maxStack := 4, maxLocals := 13, code := code, exceptionTable := #[], attributes := #[] }
def k1m1 : Method := { name := "law", desc := "(III)Z", sig := { parameters := [.int, .int, .int], returnType := some .boolean }, accessFlags := 9, code := some k1c1 }
/-- com/example/orrery/orrery/learning/ToleranceAtLeastPinLaw -/
def k1 : Class := { plain "com/example/orrery/orrery/learning/ToleranceAtLeastPinLaw" (some 0) with
  accessFlags := 49
  interfaces := #[]
  cf := some (fileOf pool1 23 #[] #[{ accessFlags := 2, nameIndex := 5, descriptorIndex := 6, attributes := #[] }, { accessFlags := 9, nameIndex := 27, descriptorIndex := 28, attributes := #[] }] 49 2 #[] #[])
  fields := #[]
  methods := #[k1m0, k1m1]
  instanceTypes := #[]
  staticTypes := #[]
  resolved := Array.replicate 32 none
  statics := none }

def pool2 : Array CpInfo := pool [(2, .class_ 4), (1, u "java/lang/Object"), (0, u "<init>"), (0, u "()V"), (0, .class_ 8), (0, u "com/example/orrery/orrery/learning/Tolerance"), (0, .double 4517329193108106637), (1, u "EPSILON"), (0, u "D"), (4, u "(DD)Z"), (1, u "atLeast")] 3

def k2m0 : Method := { name := "<init>", desc := "()V", sig := { parameters := [], returnType := none }, accessFlags := 2, code := none }
def k2c1 : Code := { maxStack := 4, maxLocals := 4, code := prog_83_method_3_code, exceptionTable := #[], attributes := #[] }
def k2m1 : Method := { name := "atLeast", desc := "(DD)Z", sig := { parameters := [.double, .double], returnType := some .boolean }, accessFlags := 8, code := some k2c1 }
/-- com/example/orrery/orrery/learning/Tolerance -/
def k2 : Class := { plain "com/example/orrery/orrery/learning/Tolerance" (some 0) with
  accessFlags := 48
  interfaces := #[]
  cf := some (fileOf pool2 7 #[] #[{ accessFlags := 2, nameIndex := 5, descriptorIndex := 6, attributes := #[] }, { accessFlags := 8, nameIndex := 19, descriptorIndex := 17, attributes := #[] }] 48 2 #[] #[{ accessFlags := 24, nameIndex := 11, descriptorIndex := 12, attributes := #[] }])
  fields := #[{ name := "EPSILON", type := .double, accessFlags := 24, slot := 0, constantValue := 0 }]
  methods := #[k2m0, k2m1]
  instanceTypes := #[]
  staticTypes := #[.double]
  resolved := Array.replicate 23 none
  statics := none }

def pool3 : Array CpInfo := pool [(1, u "java/lang/Cloneable"), (0, .class_ 1), (0, u "java/lang/Object"), (0, .class_ 3)] 3

/-- java/lang/Cloneable -/
def k3 : Class := { plain "java/lang/Cloneable" (some 0) with
  accessFlags := 1537
  interfaces := #[]
  cf := some (fileOf pool3 2 #[] #[] 1537 4 #[] #[])
  fields := #[]
  methods := #[]
  instanceTypes := #[]
  staticTypes := #[]
  resolved := Array.replicate 8 none
  statics := none }

def pool4 : Array CpInfo := pool [(1, u "java/io/Serializable"), (0, .class_ 1), (0, u "java/lang/Object"), (0, .class_ 3)] 3

/-- java/io/Serializable -/
def k4 : Class := { plain "java/io/Serializable" (some 0) with
  accessFlags := 1537
  interfaces := #[]
  cf := some (fileOf pool4 2 #[] #[] 1537 4 #[] #[])
  fields := #[]
  methods := #[]
  instanceTypes := #[]
  staticTypes := #[]
  resolved := Array.replicate 8 none
  statics := none }

/-- the primitive byte -/
def k5 : Class := { plain "byte" none with kind := .primitive 'B', accessFlags := 0x411 }
/-- [B -/
def k6 : Class := { plain "[B" (some 0) with kind := .array 5 .byte, interfaces := #[3, 4], accessFlags := 1041 }

/-- the primitive int -/
def k7 : Class := { plain "int" none with kind := .primitive 'I', accessFlags := 0x411 }
/-- [I -/
def k8 : Class := { plain "[I" (some 0) with kind := .array 7 .int, interfaces := #[3, 4], accessFlags := 1041 }

def heap : Heap := #[]
def classes : Array Class := #[k0, k1, k2, k3, k4, k5, k6, k7, k8]
def interned : List (Array UInt16 × Addr) := []
def slotsUsed : Nat := 0
def theMethod : MethodId := ⟨1, 1⟩
def args0 : Array Value := #[.int 5, .int 5, .int 5]
def aboutOver (below : List Frame) : State where
  vm := { classes := classes, interned := interned.toArray }
  heap := heap
  slotsUsed := slotsUsed
  threads := #[{ frames := .invoking theMethod args0 :: below }]
def below0 : List Frame := [.native { method := ⟨0, 0⟩, args := #[] }]
def about1 : State := aboutOver below0
def p0 : Program := .bare "" "" ""
def e0 : Env := launch0.env 0 0 0
theorem w_frames : about1.frames = Frame.invoking theMethod args0 :: below0 := rfl
set_option maxRecDepth 65536 in
theorem w_args : argsFit about1.vm theMethod args0 = true := by decide +kernel
set_option maxRecDepth 65536 in
theorem w_heap : heapFits about1 = true := by decide +kernel
set_option maxRecDepth 65536 in
theorem w_runnable : about1.curStatus? = some .runnable := by decide +kernel
set_option maxRecDepth 65536 in
theorem w_alone : about1.alone = true := by decide +kernel
set_option maxRecDepth 65536 in
theorem w_named : about1.methodNamed? x = some theMethod := by decide +kernel
set_option maxRecDepth 65536 in
theorem w_hears : about1.hears theMethod below0 = true := by decide +kernel
set_option maxRecDepth 65536 in
theorem w_ripe : about1.ripe theMethod args0 below0 = true := by decide +kernel
theorem w_running : about1.status = .running := rfl
set_option maxRecDepth 65536 in
theorem w_room : about1.hasRoom e0.platform room_1 = true :=
  launch0.hasRoom_least _ room_1 (by decide +kernel) (by decide +kernel) (by decide +kernel) (by decide +kernel) (by decide +kernel) (by decide +kernel)
theorem allAtoms_all (ts : List Jvm.Cond) (a : Array Jvm.Value) (st : Jvm.State) : (allAtoms ts).before a st = ts.all (fun c => c.before a st) := by
  induction ts with
  | nil => rfl
  | cons c t ih =>
    show (Jvm.Cond.and c (allAtoms t)).before a st = _
    rw [Jvm.Cond.before_and, ih, List.all_cons]
def words1 : List Jvm.Cond := Jvm.Cond.code x code maxLocals ret :: tables_1
/-- a 'code' word, met by the world's own term for the bytes: nothing is compared byte by byte -/
theorem code_word {y : MethodName} {bytes : ByteArray} {mx : Nat} {rt : Option FieldType} {a : Array Value} {s : State} {m : MethodId} {meth : Method} {c : Code} (h1 : s.methodNamed? y = some m) (h2 : s.vm.method? m = some meth) (h3 : meth.code = some c) (h4 : c.code = bytes)
    (h5 : (c.maxLocals == mx && c.exceptionTable.isEmpty && decide (c.maxStack ≤ mostOperands) && decide (meth.sig.returnType = rt) && !meth.locks && decide (parseMethodDescriptor y.desc = some meth.sig)) = true) : (Jvm.Cond.code y bytes mx rt).before a s = true := by
  simp only [Bool.and_eq_true, beq_iff_eq, Bool.not_eq_true', decide_eq_true_eq] at h5
  obtain ⟨⟨⟨⟨⟨g1, g2⟩, g3⟩, g4⟩, g5⟩, g6⟩ := h5
  simp [Cond.before, Cond.holds, Cond.value, h1, h2, h3, h4, g1, g2, g3, g4, g5, g6]
def isCode : Jvm.Cond → Bool
  | .code _ _ _ _ => true
  | _ => false
theorem all_split {L : List Jvm.Cond} {P : Jvm.Cond → Bool} (h1 : L.all (fun c => isCode c || P c) = true) (h2 : ∀ c ∈ L.filter isCode, P c = true) : L.all P = true := by
  refine List.all_eq_true.mpr fun c hc => ?_
  have h := List.all_eq_true.mp h1 c hc
  rcases Bool.eq_false_or_eq_true (isCode c) with hi | hi
  · exact h2 c (List.mem_filter.mpr ⟨hc, hi⟩)
  · simpa [hi] using h
set_option maxRecDepth 65536 in
theorem w_c0 : (Jvm.Cond.code x code maxLocals ret).before args0 about1 = true := code_word (m := ⟨1, 1⟩) (meth := k1m1) (c := k1c1) (by decide +kernel) rfl rfl rfl (by decide +kernel)
set_option maxRecDepth 65536 in
theorem w_c1 : (Jvm.Cond.code ({ cls := "com/example/orrery/orrery/learning/Tolerance", name := "atLeast", desc := "(DD)Z" } : Jvm.MethodName) prog_83_method_3_code (4 : Nat) (Option.some Jvm.ClassFile.FieldType.boolean)).before args0 about1 = true := code_word (m := ⟨2, 1⟩) (meth := k2m1) (c := k2c1) (by decide +kernel) rfl rfl rfl (by decide +kernel)
def codes1 : List Jvm.Cond := [Jvm.Cond.code x code maxLocals ret, Jvm.Cond.code ({ cls := "com/example/orrery/orrery/learning/Tolerance", name := "atLeast", desc := "(DD)Z" } : Jvm.MethodName) prog_83_method_3_code (4 : Nat) (Option.some Jvm.ClassFile.FieldType.boolean)]
set_option maxRecDepth 65536 in
theorem codes_eq : words1.filter isCode = codes1 := rfl
theorem w_codes : ∀ c ∈ words1.filter isCode, c.before args0 about1 = true := by
  rw [codes_eq]
  intro c hc
  simp only [codes1, List.mem_cons, List.not_mem_nil, or_false] at hc
  rcases hc with rfl | rfl
  · exact w_c0
  · exact w_c1
set_option maxRecDepth 65536 in
theorem w_t1 : words1.all (fun c => isCode c || c.before args0 about1) = true := by decide +kernel
theorem w_tables : (allAtoms (Jvm.Cond.code x code maxLocals ret :: tables_1)).before args0 about1 = true := by
  rw [allAtoms_all]
  show words1.all (fun c => c.before args0 about1) = true
  refine all_split ?_ w_codes
  rw [w_t1]
set_option maxRecDepth 65536 in
theorem w_case : (Jvm.Cond.and given_1 narrow_1).before args0 about1 = true := by decide +kernel
theorem w_applies : (headSpec (Jvm.Cond.code x code maxLocals ret :: tables_1) room_1).applies x e0.platform about1 = true :=
  (Spec.applies_iff w_frames).mpr ⟨w_running, w_runnable, w_alone, w_named, w_hears, w_ripe, w_room, w_tables⟩
theorem atStart : AtStart classFile x code maxLocals ret World_1 tables_1 room_1 Calls_1 rest_1 Pre_1 launch0 p0 e0 about1 theMethod args0 below0 :=
  ⟨lists_1, trivial, launch0.admits_env _ _ _, launch0.least_env, fairChoices_fair.cas, fairChoices_fair.clock, w_frames, w_args, w_heap, w_applies, trivial, trivial, w_case⟩
end start1
theorem witness_1 : WitnessClaimed_1 := ⟨start1.p0, start1.e0, start1.about1, start1.theMethod, start1.args0, start1.below0, start1.atStart⟩
end Jvm.Pilot.@@N@@
