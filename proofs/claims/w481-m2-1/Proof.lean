import JvmDerived
import JvmDerived.Pilot.@@N@@Statement
import JvmDerived.Pilot.@@N@@Code
set_option linter.unusedVariables false
set_option linter.unusedSimpArgs false
namespace Jvm.OwnF
open Jvm.FP Jvm.Free.Fl
/-! Exact dyadic arithmetic on doubles: Dy i k u says that the double u is the number i / 2^k. -/
/-- the datum times 2^k -/
def sh (k : Int) : Core.Datum → Core.Datum
  | .nan => .nan
  | .inf s => .inf s
  | .fin s c q => .fin s c (q + k)
def Dy (i : Int) (k : Nat) (u : UInt64) : Prop := Core.Whole i (sh k (Core.val64 u))
theorem mpos {a b : Int} (hb : 0 < b) : 0 < a * b ↔ 0 < a := by
  constructor
  · intro h
    refine Int.lt_of_not_ge fun hle => ?_
    have q := Int.mul_le_mul_of_nonneg_right hle (Int.le_of_lt hb)
    rw [Int.zero_mul] at q
    omega
  · intro h
    exact Int.mul_pos h hb
theorem sh_zero (d : Core.Datum) : sh ((0 : Nat) : Int) d = d := by
  cases d with
  | nan => rfl
  | inf s => rfl
  | fin s c q => show Core.Datum.fin s c (q + ((0 : Nat) : Int)) = _; rw [show q + ((0 : Nat) : Int) = q by omega]
theorem sh_neg (k : Int) (d : Core.Datum) : Core.negate (sh k d) = sh k (Core.negate d) := by cases d <;> rfl
theorem sh_sum (k : Int) (x y : Core.Datum) : Core.exactSum (sh k x) (sh k y) = sh k (Core.exactSum x y) := by
  cases x with
  | nan => cases y <;> rfl
  | inf s =>
    cases y with
    | nan => rfl
    | inf t => show (if s = t then Core.Datum.inf s else .nan) = sh k (if s = t then Core.Datum.inf s else .nan); split <;> rfl
    | fin t d r => rfl
  | fin s c q =>
    cases y with
    | nan => rfl
    | inf t => rfl
    | fin t d r =>
      have hm : min (q + k) (r + k) = min q r + k := by omega
      have hu : Core.sumUnits s c (q + k) t d (r + k) (min (q + k) (r + k)) = Core.sumUnits s c q t d r (min q r) := by
        rw [hm]
        unfold Core.sumUnits Core.inUnits
        rw [show q + k - (min q r + k) = q - min q r by omega, show r + k - (min q r + k) = r - min q r by omega]
      show Core.Datum.fin (Core.sumSign s t (Core.sumUnits s c (q + k) t d (r + k) (min (q + k) (r + k)))) (Core.sumUnits s c (q + k) t d (r + k) (min (q + k) (r + k))).natAbs (min (q + k) (r + k)) = Core.Datum.fin (Core.sumSign s t (Core.sumUnits s c q t d r (min q r))) (Core.sumUnits s c q t d r (min q r)).natAbs (min q r + k)
      rw [hu, hm]
theorem sh_prod (j k : Int) (x y : Core.Datum) : Core.exactProduct (sh j x) (sh k y) = sh (j + k) (Core.exactProduct x y) := by
  cases x with
  | nan => cases y <;> rfl
  | inf s =>
    cases y with
    | nan => rfl
    | inf t => rfl
    | fin t d r => show (if d = 0 then Core.Datum.nan else .inf (s != t)) = sh (j + k) (if d = 0 then Core.Datum.nan else .inf (s != t)); split <;> rfl
  | fin s c q =>
    cases y with
    | nan => rfl
    | inf t => show (if c = 0 then Core.Datum.nan else .inf (s != t)) = sh (j + k) (if c = 0 then Core.Datum.nan else .inf (s != t)); split <;> rfl
    | fin t d r => show Core.Datum.fin (s != t) (c * d) (q + j + (r + k)) = Core.Datum.fin (s != t) (c * d) (q + r + (j + k)); rw [show q + j + (r + k) = q + r + (j + k) by omega]
theorem sh_order (k : Int) (x y : Core.Datum) : Core.order (sh k x) (sh k y) = Core.order x y := by
  cases x with
  | nan => cases y <;> rfl
  | inf s => cases y <;> rfl
  | fin s c q =>
    cases y with
    | nan => rfl
    | inf t => rfl
    | fin t d r =>
      have hm : min (q + k) (r + k) = min q r + k := by omega
      show some (compare (Core.signed s (Core.inUnits c (q + k) (min (q + k) (r + k)))) (Core.signed t (Core.inUnits d (r + k) (min (q + k) (r + k))))) = some (compare (Core.signed s (Core.inUnits c q (min q r))) (Core.signed t (Core.inUnits d r (min q r))))
      unfold Core.inUnits
      rw [hm, show q + k - (min q r + k) = q - min q r by omega, show r + k - (min q r + k) = r - min q r by omega]
theorem sgn_whole {i : Int} {s : Bool} {c : Nat} {q : Int} (h : Core.Whole i (.fin s c q)) : Core.signed s i.natAbs = i := by
  by_cases hi0 : i = 0
  · rw [hi0]; exact Core.signed_zero s
  · rw [Core.whole_sign h hi0]
    unfold Core.signed
    by_cases h : i < 0 <;> simp [h] <;> omega
/-- n / 2^k, rounded, is exact -/
theorem ratio_exact (s : Bool) {n k : Nat} (hn : n ≤ 2 ^ 53) (hk : k ≤ 1000) : ∃ c q, Core.roundRatio Core.b64 s n 1 (-(k : Int)) = .fin s c q ∧ n * 2 ^ (-(q + k)).toNat = c * 2 ^ (q + k).toNat := by
  by_cases h0 : n = 0
  · subst h0
    exact ⟨0, Core.b64.qmin, rfl, by simp⟩
  · obtain ⟨c', q', hfit, hv⟩ := Core.natFit Core.good_b64 Core.wide_b64 s (n := n) hn
    obtain ⟨f1, f2, f3, f4⟩ := hfit
    have e53 : 2 ^ Core.b64.p = 9007199254740992 := by decide
    have hmin : Core.b64.qmin = -1074 := by decide
    rw [e53] at f1
    rw [Nat.mul_one] at hv
    have hq : -53 < q' := by
      refine Int.lt_of_not_ge fun hle => ?_
      rw [show (q' - 0).toNat = 0 by omega, Nat.pow_zero, Nat.mul_one] at hv
      have h1 : 2 ^ 53 ≤ 2 ^ (0 - q').toNat := Nat.pow_le_pow_right (by decide) (by omega)
      have h2 : 1 * 2 ^ (0 - q').toNat ≤ n * 2 ^ (0 - q').toNat := Nat.mul_le_mul_right _ (by omega)
      have h3 : (2 : Nat) ^ 53 = 9007199254740992 := by decide
      omega
    have ht : Core.b64.tails ≤ c' := f4.resolve_left (by omega)
    have hfit' : Core.fits Core.b64 (.fin s c' (q' - k)) := ⟨by rw [e53]; exact f1, by omega, by omega, Or.inr ht⟩
    refine ⟨c', q' - k, Core.roundRatio_exact Core.good_b64 (by decide) hfit' ?_, ?_⟩
    · rw [Nat.mul_one, show (-(k : Int) - (q' - k)).toNat = (0 - q').toNat by omega, show (q' - k - -(k : Int)).toNat = (q' - 0).toNat by omega]
      exact hv
    · rw [show (-(q' - (k : Int) + k)).toNat = (0 - q').toNat by omega, show (q' - (k : Int) + k).toNat = (q' - 0).toNat by omega]
      exact hv
theorem whole_ratio (s : Bool) {i : Int} {k : Nat} (hs : Core.signed s i.natAbs = i) (hi : i.natAbs ≤ 2 ^ 53) (hk : k ≤ 1000) : Core.Whole i (sh k (Core.roundRatio Core.b64 s i.natAbs 1 (-(k : Int)))) := by
  obtain ⟨c, q, e, hv⟩ := ratio_exact s hi hk
  rw [e]
  show Core.signed s (c * 2 ^ (q + (k : Int)).toNat) = i * ((2 ^ (-(q + (k : Int))).toNat : Nat) : Int)
  rw [← hv, Core.signed_mul, hs]
/-- what i / 2^k rounds to -/
theorem round_eq {i : Int} {k : Nat} {s : Bool} {c : Nat} {q : Int} (h : Core.Whole i (sh k (.fin s c q))) : Core.round Core.b64 (.fin s c q) = Core.roundRatio Core.b64 s i.natAbs 1 (-(k : Int)) := by
  refine Core.roundRatio_congr (by decide) (by decide) ?_
  have h1 := Core.whole_natAbs (show Core.Whole i (.fin s c (q + (k : Int))) from h)
  rw [show (q - -(k : Int)).toNat = (q + (k : Int)).toNat by omega, show (-(k : Int) - q).toNat = (-(q + (k : Int))).toNat by omega, Nat.mul_one, Nat.mul_one]
  exact h1
theorem round_dy {i : Int} {k : Nat} {d : Core.Datum} (h : Core.Whole i (sh k d)) (hi : i.natAbs ≤ 2 ^ 53) (hk : k ≤ 1000) : Core.Whole i (sh k (Core.round Core.b64 d)) := by
  cases d with
  | nan => exact h.elim
  | inf => exact h.elim
  | fin s c q =>
    rw [round_eq h]
    exact whole_ratio s (sgn_whole (show Core.Whole i (.fin s c (q + (k : Int))) from h)) hi hk
theorem Dy.shape {i : Int} {k : Nat} {u : UInt64} (h : Dy i k u) : ∃ s c q, Core.val64 u = .fin s c q := by
  unfold Dy at h
  cases e : Core.val64 u with
  | nan => rw [e] at h; exact h.elim
  | inf s => rw [e] at h; exact h.elim
  | fin s c q => exact ⟨s, c, q, rfl⟩
theorem Dy.ne_nan {i : Int} {k : Nat} {u : UInt64} (h : Dy i k u) : Core.val64 u ≠ .nan := by
  obtain ⟨s, c, q, e⟩ := h.shape
  rw [e]; exact nofun
theorem Dy.noNaN {i : Int} {k : Nat} {u : UInt64} (h : Dy i k u) : NoNaN64 u := val64_no.mpr h.ne_nan
theorem Dy.of_int {i : Int} {u : UInt64} (h : Core.DInt i u) : Dy i 0 u := by
  unfold Dy; rw [sh_zero]; exact h
theorem Dy.add {i j : Int} {k : Nat} {a b : UInt64} (ha : Dy i k a) (hb : Dy j k b) (h : (i + j).natAbs ≤ 2 ^ 53) (hk : k ≤ 1000) : Dy (i + j) k (FP.dadd a b) := by
  unfold Dy
  rw [show Core.val64 (FP.dadd a b) = _ from Core.val64_dadd a b]
  exact round_dy (by rw [← sh_sum]; exact Core.whole_sum ha hb) h hk
theorem Dy.sub {i j : Int} {k : Nat} {a b : UInt64} (ha : Dy i k a) (hb : Dy j k b) (h : (i - j).natAbs ≤ 2 ^ 53) (hk : k ≤ 1000) : Dy (i - j) k (FP.dsub a b) := by
  unfold Dy
  rw [show Core.val64 (FP.dsub a b) = _ from Core.val64_dsub a b]
  exact round_dy (by rw [← sh_sum, ← sh_neg]; exact Core.whole_sum ha (Core.whole_negate hb)) h hk
theorem Dy.mul {i j : Int} {k l : Nat} {a b : UInt64} (ha : Dy i k a) (hb : Dy j l b) (h : (i * j).natAbs ≤ 2 ^ 53) (hk : k + l ≤ 1000) : Dy (i * j) (k + l) (FP.dmul a b) := by
  unfold Dy
  rw [show Core.val64 (FP.dmul a b) = _ from Core.val64_dmul a b]
  exact round_dy (by rw [Int.natCast_add, ← sh_prod]; exact Core.whole_product ha hb) h hk
theorem Dy.cmp {i j : Int} {k : Nat} {a b : UInt64} (ha : Dy i k a) (hb : Dy j k b) : FP.dcmp a b = some (compare i j) := by
  show Core.order (Core.val64 a) (Core.val64 b) = _
  rw [← sh_order k]
  exact Core.order_whole ha hb
theorem Dy.scale {i : Int} {k : Nat} {a : UInt64} (ha : Dy i k a) (j : Nat) : Dy (i * (2 ^ j : Nat)) (k + j) a := by
  obtain ⟨s, c, q, e⟩ := ha.shape
  unfold Dy at ha ⊢
  rw [e] at ha ⊢
  have h1 : Core.Whole ((2 ^ j : Nat) : Int) (.fin false 1 (j : Int)) := by
    show Core.signed false (1 * 2 ^ ((j : Int)).toNat) = ((2 ^ j : Nat) : Int) * ((2 ^ (-(j : Int)).toNat : Nat) : Int)
    rw [show (-(j : Int)).toNat = 0 by omega, show ((j : Int)).toNat = j by omega]
    simp [Core.signed]
  have h2 := Core.whole_product ha h1
  have e2 : Core.exactProduct (sh k (.fin s c q)) (.fin false 1 (j : Int)) = sh ((k + j : Nat) : Int) (.fin s c q) := by
    show Core.Datum.fin (s != false) (c * 1) (q + (k : Int) + (j : Int)) = Core.Datum.fin s c (q + ((k + j : Nat) : Int))
    rw [Nat.mul_one, show (s != false) = s by cases s <;> rfl, show q + (k : Int) + (j : Int) = q + ((k + j : Nat) : Int) by omega]
  rw [e2] at h2
  exact h2
theorem whole_unscale {i : Int} {s : Bool} {c j : Nat} {q : Int} (h : Core.Whole (i * ((2 ^ j : Nat) : Int)) (.fin s c (q + (j : Int)))) : Core.Whole i (.fin s c q) := by
  have h1 : Core.signed s (c * 2 ^ (q + (j : Int)).toNat) = i * ((2 ^ j : Nat) : Int) * ((2 ^ (-(q + (j : Int))).toNat : Nat) : Int) := h
  show Core.signed s (c * 2 ^ q.toNat) = i * ((2 ^ (-q).toNat : Nat) : Int)
  have p2 : ((2 ^ j * 2 ^ (-(q + (j : Int))).toNat : Nat) : Int) ≠ 0 := by
    have := Nat.mul_pos (Nat.two_pow_pos j) (Nat.two_pow_pos (-(q + (j : Int))).toNat); omega
  refine Int.eq_of_mul_eq_mul_right p2 ?_
  have hx : q.toNat + (j + (-(q + (j : Int))).toNat) = (q + (j : Int)).toNat + (-q).toNat := by omega
  calc Core.signed s (c * 2 ^ q.toNat) * ((2 ^ j * 2 ^ (-(q + (j : Int))).toNat : Nat) : Int)
      = Core.signed s (c * 2 ^ (q.toNat + (j + (-(q + (j : Int))).toNat))) := by
        rw [← Core.signed_mul, Nat.pow_add 2 q.toNat, Nat.pow_add 2 j, Nat.mul_assoc c]
    _ = Core.signed s (c * 2 ^ (q + (j : Int)).toNat * 2 ^ (-q).toNat) := by rw [hx, Nat.pow_add, Nat.mul_assoc c]
    _ = i * ((2 ^ j : Nat) : Int) * ((2 ^ (-(q + (j : Int))).toNat : Nat) : Int) * ((2 ^ (-q).toNat : Nat) : Int) := by rw [Core.signed_mul, h1]
    _ = i * ((2 ^ (-q).toNat : Nat) : Int) * ((2 ^ j * 2 ^ (-(q + (j : Int))).toNat : Nat) : Int) := by rw [Int.natCast_mul]; ac_rfl
theorem sh_unscale {i : Int} {k j : Nat} {d : Core.Datum} (h : Core.Whole (i * ((2 ^ j : Nat) : Int)) (sh ((k + j : Nat) : Int) d)) : Core.Whole i (sh k d) := by
  cases d with
  | nan => exact h.elim
  | inf => exact h.elim
  | fin s c q =>
    refine whole_unscale (j := j) ?_
    have e : q + ((k + j : Nat) : Int) = q + (k : Int) + (j : Int) := by omega
    have h' : Core.Whole (i * ((2 ^ j : Nat) : Int)) (.fin s c (q + ((k + j : Nat) : Int))) := h
    rw [e] at h'; exact h'
theorem Dy.unscale {i : Int} {k j : Nat} {u : UInt64} (h : Dy (i * ((2 ^ j : Nat) : Int)) (k + j) u) : Dy i k u := sh_unscale h
theorem Dy.mulTo {i j n : Int} {k l r t : Nat} {a b : UInt64} (ha : Dy i k a) (hb : Dy j l b) (hn : i * j = n * ((2 ^ t : Nat) : Int)) (hr : k + l = r + t) (h : n.natAbs ≤ 2 ^ 53) (hk : r ≤ 1000) : Dy n r (FP.dmul a b) := by
  unfold Dy
  rw [show Core.val64 (FP.dmul a b) = _ from Core.val64_dmul a b]
  refine round_dy (sh_unscale (j := t) ?_) h hk
  have h1 := Core.whole_product ha hb
  rw [sh_prod, hn, ← Int.natCast_add, hr] at h1
  exact h1
theorem Dy.cast {i i' : Int} {k k' : Nat} {a : UInt64} (ha : Dy i k a) (hi : i = i') (hk : k = k') : Dy i' k' a := by subst hi hk; exact ha
theorem Dy.unique {i : Int} {k : Nat} {a b : UInt64} (ha : Dy i k a) (hb : Dy i k b) (hi : i ≠ 0) : a = b := by
  obtain ⟨s, c, q, e⟩ := ha.shape
  obtain ⟨t, d, r, e'⟩ := hb.shape
  refine Core.val64_inj ha.ne_nan ?_
  have f1 := Core.round_of_fits Core.good_b64 (Core.val64_fits a)
  have f2 := Core.round_of_fits Core.good_b64 (Core.val64_fits b)
  have ha' := ha; have hb' := hb
  unfold Dy at ha' hb'
  rw [e] at ha' f1; rw [e'] at hb' f2
  rw [e, e', ← f1, ← f2, round_eq ha', round_eq hb', Core.whole_sign (show Core.Whole i (.fin s c (q + (k : Int))) from ha') hi, Core.whole_sign (show Core.Whole i (.fin t d (r + (k : Int))) from hb') hi]
/-- the quotient of two dyadics, the divisor positive, is the ratio rounded -/
theorem div_val {i j : Int} {k : Nat} {a b : UInt64} (ha : Dy i k a) (hb : Dy j 0 b) (hj : 0 < j) : ∃ s, Core.signed s i.natAbs = i ∧ Core.val64 (FP.ddiv a b) = Core.roundRatio Core.b64 s i.natAbs j.natAbs (-(k : Int)) := by
  obtain ⟨s, c, q, e⟩ := ha.shape
  obtain ⟨t, d, r, e'⟩ := hb.shape
  have ha' := ha; have hb' := hb
  unfold Dy at ha' hb'
  rw [e] at ha'; rw [e', sh_zero] at hb'
  have ha2 : Core.Whole i (.fin s c (q + (k : Int))) := ha'
  have ht : t = false := by rw [Core.whole_sign hb' (by omega)]; simp; omega
  have hd : d ≠ 0 := fun hd => by have := (Core.whole_zero hb').mp hd; omega
  refine ⟨s, sgn_whole ha2, ?_⟩
  rw [show Core.val64 (FP.ddiv a b) = _ from Core.val64_ddiv a b, e, e']
  show (if d = 0 then (if c = 0 then Core.Datum.nan else .inf (s != t)) else Core.roundRatio Core.b64 (s != t) c d (q - r)) = _
  rw [if_neg hd, ht, show (s != false) = s by cases s <;> rfl]
  refine Core.roundRatio_congr (by omega) (by omega) ?_
  have h1 := Core.whole_natAbs ha2
  have h2 := Core.whole_natAbs hb'
  rw [show (q - r - -(k : Int)) = (q + (k : Int)) - r by omega, show (-(k : Int) - (q - r)) = r - (q + (k : Int)) by omega]
  generalize q + (k : Int) = A at h1 ⊢
  generalize i.natAbs = I at h1 ⊢
  generalize j.natAbs = J at h2 ⊢
  refine Nat.eq_of_mul_eq_mul_right (Nat.mul_pos (Nat.two_pow_pos (-A).toNat) (Nat.two_pow_pos r.toNat)) ?_
  have hx : (A - r).toNat + ((-A).toNat + r.toNat) = A.toNat + (-r).toNat + (r - A).toNat := by omega
  calc c * J * 2 ^ (A - r).toNat * (2 ^ (-A).toNat * 2 ^ r.toNat)
      = c * J * 2 ^ ((A - r).toNat + ((-A).toNat + r.toNat)) := by rw [Nat.pow_add, Nat.pow_add]; ac_rfl
    _ = (c * 2 ^ A.toNat) * (J * 2 ^ (-r).toNat) * 2 ^ (r - A).toNat := by rw [hx, Nat.pow_add, Nat.pow_add]; ac_rfl
    _ = (I * 2 ^ (-A).toNat) * (d * 2 ^ r.toNat) * 2 ^ (r - A).toNat := by rw [h1, h2]
    _ = I * d * 2 ^ (r - A).toNat * (2 ^ (-A).toNat * 2 ^ r.toNat) := by ac_rfl
theorem Dy.div {i j m : Int} {k : Nat} {a b : UInt64} (ha : Dy i k a) (hb : Dy j 0 b) (hj : 0 < j) (hm : i = m * j) (h : m.natAbs ≤ 2 ^ 53) (hk : k ≤ 1000) : Dy m k (FP.ddiv a b) := by
  obtain ⟨s, hs, e⟩ := div_val ha hb hj
  unfold Dy
  have hn : i.natAbs = m.natAbs * j.natAbs := by rw [hm, Int.natAbs_mul]
  have e2 : Core.roundRatio Core.b64 s i.natAbs j.natAbs (-(k : Int)) = Core.roundRatio Core.b64 s m.natAbs 1 (-(k : Int)) := by
    refine Core.roundRatio_congr (by omega) (by decide) ?_
    rw [hn, Nat.mul_one]
  rw [e, e2]
  refine whole_ratio s ?_ h hk
  have h3 : Core.signed s i.natAbs = Core.signed s m.natAbs * j := by
    rw [hn, Core.signed_mul, show ((j.natAbs : Nat) : Int) = j by omega]
  rw [hs, hm] at h3
  exact (Int.eq_of_mul_eq_mul_right (by omega) h3).symm
/-- equal ratios, equally rounded -/
theorem div_cmp_eq {i j i' j' : Int} {k k' : Nat} {a b a' b' : UInt64} (ha : Dy i k a) (hb : Dy j 0 b) (hj : 0 < j) (ha' : Dy i' k' a') (hb' : Dy j' 0 b') (hj' : 0 < j') (hk : k ≤ 1000) (hk' : k' ≤ 1000)
    (h : i * j' * (2 ^ k' : Nat) = i' * j * (2 ^ k : Nat)) : FP.dcmp (FP.ddiv a b) (FP.ddiv a' b') = some .eq := by
  by_cases hi : i = 0
  · subst hi
    have hi' : i' = 0 := by
      rw [Int.zero_mul, Int.zero_mul] at h
      have p1 : ((2 ^ k : Nat) : Int) ≠ 0 := by have := Nat.two_pow_pos k; omega
      rcases Int.mul_eq_zero.mp h.symm with q | q
      · rcases Int.mul_eq_zero.mp q with q | q
        · exact q
        · omega
      · exact absurd q p1
    subst hi'
    have d1 := (ha.div hb hj (m := 0) (by omega) (by decide) hk).scale k'
    have d2 := (ha'.div hb' hj' (m := 0) (by omega) (by decide) hk').scale k
    have e2 : k' + k = k + k' := by omega
    rw [Dy.cmp d1 (d2.cast rfl e2)]
    simp [Core.compare_self_int]
  · obtain ⟨s, hs, e⟩ := div_val ha hb hj
    obtain ⟨s', hs', e'⟩ := div_val ha' hb' hj'
    have n1 := congrArg Int.natAbs h
    rw [Int.natAbs_mul, Int.natAbs_mul, Int.natAbs_mul, Int.natAbs_mul, Int.natAbs_natCast, Int.natAbs_natCast] at n1
    have p1 : (0 : Int) < ((2 ^ k : Nat) : Int) := by have := Nat.two_pow_pos k; omega
    have p2 : (0 : Int) < ((2 ^ k' : Nat) : Int) := by have := Nat.two_pow_pos k'; omega
    have hss : s = s' := by
      have q1 : (0 < i ↔ 0 < i') := by
        have a1 : (0 < i * j' * ((2 ^ k' : Nat) : Int)) ↔ 0 < i := by
          rw [Int.mul_assoc]; exact mpos (Int.mul_pos hj' p2)
        have a2 : (0 < i' * j * ((2 ^ k : Nat) : Int)) ↔ 0 < i' := by
          rw [Int.mul_assoc]; exact mpos (Int.mul_pos hj p1)
        rw [← a1, ← a2, h]
      have hi' : i' ≠ 0 := fun z => by
        rw [z, Int.zero_mul, Int.zero_mul] at h
        rcases Int.mul_eq_zero.mp h with q | q
        · rcases Int.mul_eq_zero.mp q with q | q
          · exact hi q
          · omega
        · omega
      unfold Core.signed at hs hs'
      cases s <;> cases s' <;> simp at hs hs' ⊢ <;> omega
    have ev : Core.val64 (FP.ddiv a b) = Core.val64 (FP.ddiv a' b') := by
      rw [e, e', hss]
      refine Core.roundRatio_congr (by omega) (by omega) ?_
      rcases Nat.le_total k k' with q | q
      · obtain ⟨z, rfl⟩ : ∃ z, k' = k + z := ⟨k' - k, by omega⟩
        rw [show (-(k : Int) - -((k + z : Nat) : Int)).toNat = z by omega, show (-((k + z : Nat) : Int) - -(k : Int)).toNat = 0 by omega, Nat.pow_zero, Nat.mul_one]
        rw [Nat.pow_add] at n1
        refine Nat.eq_of_mul_eq_mul_right (Nat.two_pow_pos k) ?_
        rw [← n1]; ac_rfl
      · obtain ⟨z, rfl⟩ : ∃ z, k = k' + z := ⟨k - k', by omega⟩
        rw [show (-((k' + z : Nat) : Int) - -(k' : Int)).toNat = 0 by omega, show (-(k' : Int) - -((k' + z : Nat) : Int)).toNat = z by omega, Nat.pow_zero, Nat.mul_one]
        rw [Nat.pow_add] at n1
        refine Nat.eq_of_mul_eq_mul_right (Nat.two_pow_pos k') ?_
        rw [n1]; ac_rfl
    have nn : Core.val64 (FP.ddiv a b) ≠ .nan := by rw [e]; exact Core.roundRatio_ne_nan _ _ _ _ _
    show Core.order (Core.val64 (FP.ddiv a b)) (Core.val64 (FP.ddiv a' b')) = _
    rw [← ev]
    exact Core.order_self nn
theorem div_noNaN {i j : Int} {k : Nat} {a b : UInt64} (ha : Dy i k a) (hb : Dy j 0 b) (hj : 0 < j) : NoNaN64 (FP.ddiv a b) := by
  obtain ⟨s, hs, e⟩ := div_val ha hb hj
  exact val64_no.mpr (by rw [e]; exact Core.roundRatio_ne_nan _ _ _ _ _)
/-- what dcmpl and dcmpg push -/
theorem cmpV_of (i j : Int) (o : ClassFile.CmpOp) : Op.cmpValue (some (compare i j)) o = if i < j then -1 else if i = j then 0 else 1 := by
  rw [Core.compare_ite]
  by_cases h1 : i < j
  · rw [if_pos h1, if_pos h1]; cases o <;> rfl
  · rw [if_neg h1, if_neg h1]
    by_cases h2 : i = j
    · rw [if_pos h2, if_pos h2]; cases o <;> rfl
    · rw [if_neg h2, if_neg h2]; cases o <;> rfl
theorem Dy.cmpV {i j : Int} {k : Nat} {a b : UInt64} (ha : Dy i k a) (hb : Dy j k b) (o : ClassFile.CmpOp) : Op.cmpValue (FP.dcmp a b) o = if i < j then -1 else if i = j then 0 else 1 := by
  rw [Dy.cmp ha hb]; exact cmpV_of i j o
theorem dy_zero : Dy 0 0 FP.dconst0 := by
  unfold Dy; rw [sh_zero, show Core.val64 FP.dconst0 = .fin false 0 Core.b64.qmin from Core.val64_dconst0]
  show Core.signed false (0 * _) = 0 * _
  rw [Nat.zero_mul, Int.zero_mul]; rfl
theorem dy_one : Dy 1 0 FP.dconst1 := by
  unfold Dy; rw [sh_zero, show Core.val64 FP.dconst1 = .fin false (2 ^ 52) (-52) from Core.val64_dconst1]
  show Core.signed false (2 ^ 52 * 2 ^ (-52 : Int).toNat) = 1 * ((2 ^ (-(-52 : Int)).toNat : Nat) : Int)
  decide
theorem Dy.of_bits {u : UInt64} {c : Nat} {q : Int} {i : Int} {k : Nat} (h : Core.val64 u = .fin false c q) (hi : ((c * 2 ^ (q + k).toNat : Nat) : Int) = i * ((2 ^ (-(q + k)).toNat : Nat) : Int)) : Dy i k u := by
  unfold Dy; rw [h]; exact hi
theorem Dy.maxz {i : Int} {u : UInt64} (h : Dy i 0 u) : Dy (max i 0) 0 (Jvm.Native.java_lang_Math.nans.pick64 true u FP.dconst0) := by
  have e := Dy.cmp h dy_zero
  unfold Jvm.Native.java_lang_Math.nans.pick64
  rw [e, Core.compare_ite]
  by_cases h1 : i < 0
  · rw [if_pos h1]; exact dy_zero.cast (by omega) rfl
  · rw [if_neg h1]
    by_cases h2 : i = 0
    · rw [if_pos h2]
      show Dy (max i 0) 0 (if ((u >>> 63 == 1) == true) = true then FP.dconst0 else u)
      split
      · exact dy_zero.cast (by omega) rfl
      · exact h.cast (by omega) rfl
    · rw [if_neg h2]; exact h.cast (by omega) rfl
theorem Dy.i2d (x : Int32) : Dy x.toInt 0 (FP.i2d x) := Dy.of_int (Core.i2d_int x)
theorem Dy.l2d {x : Int64} (h : x.toInt.natAbs ≤ 2 ^ 53) : Dy x.toInt 0 (FP.l2d x) := Dy.of_int (Core.l2d_int h)
end Jvm.OwnF
namespace Jvm.OwnF
open Sem ClassFile Op Lib Jvm.Stand Jvm.Free Jvm.LawKit Jvm.RoadKit
/-! Gar Z h a ty N f: at a there is an array of ty, N long, with f i at every place i < N. -/
def Gar (Z : State) (h : Heap) (a : Addr) (ty : FieldType) (N : Nat) (f : Nat → Value) : Prop := ∃ c : Cell, Arr Z h a c ty ∧ c.slots.size = N ∧ ∀ i, i < N → c.slots[i]? = some (f i)
section
variable {Z : State} {h h' : Heap} {a b : Addr} {ty : FieldType} {N : Nat} {f g : Nat → Value} {sl : Nat} {v : Value} {ws : List Addr}
theorem Gar.lt (F : Gar Z h a ty N f) : a < h.size := by obtain ⟨c, A, -⟩ := F; exact A.lt
theorem Gar.ext (F : Gar Z h a ty N f) (E : Ext h h') : Gar Z h' a ty N f := by obtain ⟨c, A, r⟩ := F; exact ⟨c, A.ext E, r⟩
theorem Gar.other (F : Gar Z h b ty N f) (W : Wr h h' a sl v) (q : b ≠ a) : Gar Z h' b ty N f := by obtain ⟨c, A, r⟩ := F; exact ⟨c, A.other W q, r⟩
theorem Gar.keep (F : Gar Z h a ty N f) (K : Keep h h' ws) (q : a ∉ ws) : Gar Z h' a ty N f := by obtain ⟨c, A, r⟩ := F; exact ⟨c, ⟨K.2.1 a c A.1 q, A.2⟩, r⟩
theorem Gar.congr (F : Gar Z h a ty N f) (q : ∀ i, i < N → f i = g i) : Gar Z h a ty N g := by obtain ⟨c, A, S, H⟩ := F; exact ⟨c, A, S, fun i hi => by rw [H i hi, q i hi]⟩
theorem Gar.len (F : Gar Z h a ty N f) {M : Nat} (q : N = M) : Gar Z h a ty M f := q ▸ F
theorem Gar.new {k : ClassId} {z : Int32} (A : Arr Z h a (newA k ty z) ty) : Gar Z h a ty z.toNatClampNeg (fun _ => defaultValue ty) :=
  ⟨_, A, sz_new _ _ _, fun i hi => by simp [newA, hi]⟩
theorem Gar.set (F : Gar Z h a ty N f) (W : Wr h h' a sl v) : Gar Z h' a ty N (fun i => if i = sl then v else f i) := by
  obtain ⟨c, A, S, H⟩ := F
  obtain ⟨c', q1, q2, q3, q4, q5, q6, q7⟩ := wr_at W A.1
  obtain ⟨r1, r2, r3⟩ := q7 rfl
  have A' := Arr.same W A
  have e : c' = c.setSlot sl v := r1
  refine ⟨c', by rw [e]; exact A', by rw [q4]; exact S, fun i hi => ?_⟩
  show c'.slots[i]? = some (if i = sl then v else f i)
  by_cases z : i = sl
  · rw [if_pos z, z]; exact r2
  · rw [if_neg z, q6 i z]; exact H i hi
theorem Gar.ne {N' : Nat} {f' : Nat → Value} {ty' : FieldType} (F : Gar Z h a ty N f) (G : Gar Z h b ty' N' f') (q : N ≠ N') : a ≠ b := fun e => by
  obtain ⟨c, A, S, -⟩ := F
  obtain ⟨c', A', S', -⟩ := G
  subst e
  have := A.1.symm.trans A'.1
  cases this
  omega
end
section
variable {p : Program} {l : Launch} {e : Env} {R : Room} {s : State} {m : MethodId} {args : Array Value} {below : List Frame} {meth : Method} {c : Code} {T : State} {locs : List Loc} {cells slots : Nat} {Z : State} {h : Heap} {a : Addr} {N : Nat} {f : Nat → Value}
theorem in_of {c : Cell} {j : Int32} (S : c.slots.size = N) (hj : ¬ j < 0) (hN : j.toNatClampNeg < N) : ¬ (j < 0 ∨ c.slots.size ≤ j.toNatClampNeg) := fun q => q.elim hj fun z => by omega
theorem ldD (X : Stand p l e R s m args below meth c T locs cells slots) (hx : p.tables.exec = Jvm.exec) (hZ : Z.Warmed39 s.vm) (eT : T.heap = h) (A : Gar Z h a .double N f) {j : Int32} (hj : ¬ j < 0) (hN : j.toNatClampNeg < N) {v : Value} (hv : f j.toNatClampNeg = v) {g : JFrame} (hg : g.method = m) {rest : List Value} (hs : g.stack = .int j :: .ref a :: rest) (hd : decode c.code g.pc = .ok (.daload, 1)) (target : State)
    (hr : Steps p.tables e below (T.setTop { g with pc := g.pc + 1, stack := v :: rest }) target) : Steps p.tables e below (T.setTop g) target := by
  obtain ⟨cl, Ar, S, H⟩ := A
  exact X.daload hx (by rw [eT]; exact Ar.1) (State.isArrayOf_alike hZ.alike Ar.2.1) Ar.2.2 (in_of S hj hN) (by rw [H _ hN, hv]) hg hs hd target hr
theorem ldI (X : Stand p l e R s m args below meth c T locs cells slots) (hx : p.tables.exec = Jvm.exec) (hZ : Z.Warmed39 s.vm) (eT : T.heap = h) (A : Gar Z h a .int N f) {j : Int32} (hj : ¬ j < 0) (hN : j.toNatClampNeg < N) {v : Value} (hv : f j.toNatClampNeg = v) {g : JFrame} (hg : g.method = m) {rest : List Value} (hs : g.stack = .int j :: .ref a :: rest) (hd : decode c.code g.pc = .ok (.iaload, 1)) (target : State)
    (hr : Steps p.tables e below (T.setTop { g with pc := g.pc + 1, stack := v :: rest }) target) : Steps p.tables e below (T.setTop g) target := by
  obtain ⟨cl, Ar, S, H⟩ := A
  exact X.iaload hx (by rw [eT]; exact Ar.1) (State.isArrayOf_alike hZ.alike Ar.2.1) Ar.2.2 (in_of S hj hN) (by rw [H _ hN, hv]) hg hs hd target hr
theorem lnG {ty : FieldType} (X : Stand p l e R s m args below meth c T locs cells slots) (hx : p.tables.exec = Jvm.exec) (hZ : Z.Warmed39 s.vm) (eT : T.heap = h) (A : Gar Z h a ty N f) {z : Int32} (hz : N.toInt32 = z) {g : JFrame} (hg : g.method = m) {rest : List Value} (hs : g.stack = .ref a :: rest) (hd : decode c.code g.pc = .ok (.arraylength, 1)) (target : State)
    (hr : Steps p.tables e below (T.setTop { g with pc := g.pc + 1, stack := .int z :: rest }) target) : Steps p.tables e below (T.setTop g) target := by
  obtain ⟨cl, Ar, S, H⟩ := A
  refine X.arraylength hx (by rw [eT]; exact Ar.1) (State.isArrayOf_alike hZ.alike Ar.2.1) hg hs hd target ?_
  rw [S, hz]; exact hr
theorem stDG (X : Stand p l e R s m args below meth c T locs cells slots) (hx : p.tables.exec = Jvm.exec) (hZ : Z.Warmed39 s.vm) (eT : T.heap = h) (A : Gar Z h a .double N f) {j : Int32} {x : UInt64} (hj : ¬ j < 0) (hN : j.toNatClampNeg < N) {g : JFrame} (hg : g.method = m) {rest : List Value} (hs : g.stack = .double x :: .int j :: .ref a :: rest) (hd : decode c.code g.pc = .ok (.dastore, 1)) :
    ∃ T' h', Stand p l e R s m args below meth c T' (locs ++ [⟨a, j.toNatClampNeg⟩]) cells slots ∧ T'.heap = h' ∧ Wr h h' a j.toNatClampNeg (.double x) ∧ ∀ target, Steps p.tables e below (T'.setTop { g with pc := g.pc + 1, stack := rest }) target → Steps p.tables e below (T.setTop g) target := by
  obtain ⟨cl, Ar, S, H⟩ := A
  exact stD X hx hZ eT Ar (in_of S hj hN) hg hs hd
theorem stIG (X : Stand p l e R s m args below meth c T locs cells slots) (hx : p.tables.exec = Jvm.exec) (hZ : Z.Warmed39 s.vm) (eT : T.heap = h) (A : Gar Z h a .int N f) {j : Int32} {x : Int32} (hj : ¬ j < 0) (hN : j.toNatClampNeg < N) {g : JFrame} (hg : g.method = m) {rest : List Value} (hs : g.stack = .int x :: .int j :: .ref a :: rest) (hd : decode c.code g.pc = .ok (.iastore, 1)) :
    ∃ T' h', Stand p l e R s m args below meth c T' (locs ++ [⟨a, j.toNatClampNeg⟩]) cells slots ∧ T'.heap = h' ∧ Wr h h' a j.toNatClampNeg (.int x) ∧ ∀ target, Steps p.tables e below (T'.setTop { g with pc := g.pc + 1, stack := rest }) target → Steps p.tables e below (T.setTop g) target := by
  obtain ⟨cl, Ar, S, H⟩ := A
  exact stI X hx hZ eT Ar (in_of S hj hN) hg hs hd
theorem clG {ty : FieldType} (X : Stand p l e R s m args below meth c T locs cells slots) (hx : p.tables.exec = Jvm.exec) (hZ : Z.Warmed39 s.vm) {a0 : Array Value} {own ad : String} {index : Nat} (hown : s.vm.findClass own = some m.cls)
    (w1 : (Cond.methodLink own index ⟨ad, "clone", "()Ljava/lang/Object;"⟩).before a0 Z = true) (w2 : (Cond.sameMethod ad "java/lang/Object" "clone" "()Ljava/lang/Object;").before a0 Z = true) (w3 : (Cond.native ⟨"java/lang/Object", "clone", "()Ljava/lang/Object;"⟩).before a0 Z = true)
    (w4 : (Cond.instanceMethod ⟨"java/lang/Object", "clone", "()Ljava/lang/Object;"⟩).before a0 Z = true) (w5 : (Cond.selects ad ⟨ad, "clone", "()Ljava/lang/Object;"⟩ ⟨"java/lang/Object", "clone", "()Ljava/lang/Object;"⟩).before a0 Z = true) (w6 : (Cond.castable ad "java/lang/Cloneable").before a0 Z = true)
    (eT : T.heap = h) (A : Gar Z h a ty N f) (E : Exa Z h a ad) (hfit : ∀ i, i < N → fits ty (f i) = true) {g : JFrame} (hg : g.method = m) (hsize : g.locals.size = c.maxLocals) {rest : List Value} (hst : g.stack = .ref a :: rest) (hd : decode c.code g.pc = .ok (.invokevirtual index, 3))
    (hf : 1 ≤ R.frames) {W cap : Nat} (hW : 2 * g.monitorRoom + (rest.map fun v => v.category).sum ≤ W) (hl : W + 14 ≤ R.locals) (hcap : N ≤ cap) (hc : cells + 1 ≤ R.cells) (hsl : slots + cap ≤ R.slots) :
    ∃ T' h', Stand p l e R s m args below meth c T' locs (cells + 1) (slots + cap) ∧ T'.heap = h' ∧ Ext h h' ∧ Gar Z h' h.size ty N f ∧ Exa Z h' h.size ad ∧
      ∀ target, Steps p.tables e below (T'.setTop { g with pc := g.pc + 3, stack := .ref h.size :: rest }) target → Steps p.tables e below (T.setTop g) target := by
  obtain ⟨cl, Ar, S, H⟩ := A
  have FC : FitC Z cl := fitC_of Ar fun i hi v hv => by rw [H i (by omega)] at hv; cases hv; exact hfit i (by omega)
  obtain ⟨T', h', X', e', ex, A', E', st⟩ := cloneA X hx hZ hown w1 w2 w3 w4 w5 w6 eT Ar E FC hg hsize hst hd hf hW hl (by rw [S]; exact hcap) hc hsl
  exact ⟨T', h', X', e', ex, ⟨cloneOf cl, A', S, H⟩, E', st⟩
end
end Jvm.OwnF
namespace Jvm.RoadKit
open Sem ClassFile Op Lib Jvm.Stand Jvm.Free Jvm.LawKit
section New
variable {p : Program} {l : Launch} {e : Env} {R : Room} {s : State} {m : MethodId} {args : Array Value} {below : List Frame} {meth : Method} {c : Code} {T : State} {locs : List Loc} {cells slots : Nat}
theorem retI (X : Stand p l e R s m args below meth c T locs cells slots) (hx : p.tables.exec = Jvm.exec) {pc : Nat} {Ls : Array Slot} {z : Int32} {rest : List Value} (hret : meth.sig.returnType = some .int) (hd : decode c.code pc = .ok (.ireturn, 1)) {fs : List Frame}
    (hl : ∀ (f : JFrame) (acts : List Action), f.method = m → f.locked = none → f.entered = [] → (doReturn e (T.setTop f) acts (some (.int z))).1 = T.setFrames fs) : Steps p.tables e below (T.setTop (mkF m pc Ls (.int z :: rest))) (T.setFrames fs) := by
  have hm' : T.vm.method? m = some meth := X.method'
  have hn : narrow .int (.int z) = .int z := rfl
  show Steps p.tables e below (T.setTop { method := m, pc := pc, locals := Ls, stack := _ :: rest, locked := none }) _
  jvm_step X.here [X.here.top, hx, hd, hm', hret, hn]
  first | (intro acts; rw [hl _ acts rfl rfl rfl]) | rw [hl _ _ rfl rfl rfl]
  exact Steps.refl _
theorem retD (X : Stand p l e R s m args below meth c T locs cells slots) (hx : p.tables.exec = Jvm.exec) {pc : Nat} {Ls : Array Slot} {z : UInt64} {rest : List Value} (hret : meth.sig.returnType = some .double) (hd : decode c.code pc = .ok (.dreturn, 1)) {fs : List Frame}
    (hl : ∀ (f : JFrame) (acts : List Action), f.method = m → f.locked = none → f.entered = [] → (doReturn e (T.setTop f) acts (some (.double z))).1 = T.setFrames fs) : Steps p.tables e below (T.setTop (mkF m pc Ls (.double z :: rest))) (T.setFrames fs) := by
  have hm' : T.vm.method? m = some meth := X.method'
  have hn : narrow .double (.double z) = .double z := rfl
  show Steps p.tables e below (T.setTop { method := m, pc := pc, locals := Ls, stack := _ :: rest, locked := none }) _
  jvm_step X.here [X.here.top, hx, hd, hm', hret, hn]
  first | (intro acts; rw [hl _ acts rfl rfl rfl]) | rw [hl _ _ rfl rfl rfl]
  exact Steps.refl _
theorem retB (X : Stand p l e R s m args below meth c T locs cells slots) (hx : p.tables.exec = Jvm.exec) {pc : Nat} {Ls : Array Slot} {z : Int32} {rest : List Value} (hret : meth.sig.returnType = some .boolean) (hz : z = 0 ∨ z = 1) (hd : decode c.code pc = .ok (.ireturn, 1)) {fs : List Frame}
    (hl : ∀ (f : JFrame) (acts : List Action), f.method = m → f.locked = none → f.entered = [] → (doReturn e (T.setTop f) acts (some (.int z))).1 = T.setFrames fs) : Steps p.tables e below (T.setTop (mkF m pc Ls (.int z :: rest))) (T.setFrames fs) := by
  have q : nar .boolean z = z := by rcases hz with rfl | rfl <;> rfl
  refine retN X hx hret (Or.inl rfl) hd ?_
  rw [q]; exact hl
end New
end Jvm.RoadKit
namespace Jvm.Pilot.@@N@@
open Jvm Jvm.ClassFile Sem Op Lib Jvm.Free Jvm.Stand Jvm.LawKit Jvm.RoadKit Bundle Jvm.Pilot.@@N@@.Jvm.D Jvm.OwnF Jvm.Free.Fl
def own_f3 (u0 u1 u2 : UInt64) : Nat → UInt64
  | 0 => u0
  | 1 => u1
  | _ => u2
def own_f2 (u0 u1 : UInt64) : Nat → UInt64
  | 0 => u0
  | _ => u1
theorem own_prod {a b : Int} (ha : a.natAbs ≤ 1048576) (hb : b.natAbs ≤ 1048576) : (a * b).natAbs ≤ 1099511627776 := by
  rw [Int.natAbs_mul]; exact Nat.mul_le_mul ha hb
theorem own_sel (p1 : Int32) : ((p1 &&& (2147483647 : Int32)) % (3 : Int32)) = 0 ∨ ((p1 &&& (2147483647 : Int32)) % (3 : Int32)) = 1 ∨ ((p1 &&& (2147483647 : Int32)) % (3 : Int32)) = 2 := by
  have a := c_and p1 2147483647 (by decide)
  have b := (c_irem (p1 &&& (2147483647 : Int32)) 3 3 (by decide)).1 a.1
  have q : ((p1 &&& (2147483647 : Int32)) % (3 : Int32)).toInt = 0 ∨ ((p1 &&& (2147483647 : Int32)) % (3 : Int32)).toInt = 1 ∨ ((p1 &&& (2147483647 : Int32)) % (3 : Int32)).toInt = 2 := by omega
  rcases q with q | q | q
  · exact Or.inl (Int32.toInt_inj.mp q)
  · exact Or.inr (Or.inl (Int32.toInt_inj.mp q))
  · exact Or.inr (Or.inr (Int32.toInt_inj.mp q))
theorem own_b (x : Int32) : ((x % (1048576 : Int32)).toInt64).toInt.natAbs ≤ 1048576 := by
  rw [c_i2l]
  have a := c_irem x 1048576 1048576 (by decide)
  rcases Int.lt_or_le x.toInt 0 with q | q
  · have := a.2 q; omega
  · have := a.1 q; omega
theorem own_e1 {la lb lx : Int64} (ba : la.toInt.natAbs ≤ 1048576) (m1 : (lb.toInt * lx.toInt).natAbs ≤ 1099511627776) : (la + (lb * lx)).toInt = la.toInt + lb.toInt * lx.toInt := by
  have q1 := c_lmul lb lx; have r1 := rng64 (lb * lx); have q2 := c_ladd la (lb * lx); have r2 := rng64 (la + (lb * lx))
  generalize lb.toInt * lx.toInt = P at *
  omega
theorem own_e2 {la lb lx lc ly : Int64} (ba : la.toInt.natAbs ≤ 1048576) (m1 : (lb.toInt * lx.toInt).natAbs ≤ 1099511627776) (m2 : (lc.toInt * ly.toInt).natAbs ≤ 1099511627776) : ((la + (lb * lx)) + (lc * ly)).toInt = la.toInt + lb.toInt * lx.toInt + lc.toInt * ly.toInt := by
  have h := own_e1 ba m1
  generalize la + (lb * lx) = S at *
  have q1 := c_lmul lc ly; have r1 := rng64 (lc * ly); have q2 := c_ladd S (lc * ly); have r2 := rng64 (S + (lc * ly))
  generalize lb.toInt * lx.toInt = P at *
  generalize lc.toInt * ly.toInt = Q at *
  omega


theorem d1_0 : decode prog_2_method_3_code 0 = .ok (.aload_n 0, 1) := by decide +kernel
theorem d1_1 : decode prog_2_method_3_code 1 = .ok (.iconst 0, 1) := by decide +kernel
theorem d1_2 : decode prog_2_method_3_code 2 = .ok (.daload, 1) := by decide +kernel
theorem d1_3 : decode prog_2_method_3_code 3 = .ok (.dstore_n 2, 1) := by decide +kernel
theorem d1_4 : decode prog_2_method_3_code 4 = .ok (.iconst 0, 1) := by decide +kernel
theorem d1_5 : decode prog_2_method_3_code 5 = .ok (.istore 4, 2) := by decide +kernel
theorem d1_7 : decode prog_2_method_3_code 7 = .ok (.iload 4, 2) := by decide +kernel
theorem d1_9 : decode prog_2_method_3_code 9 = .ok (.aload_n 1, 1) := by decide +kernel
theorem d1_10 : decode prog_2_method_3_code 10 = .ok (.arraylength, 1) := by decide +kernel
theorem d1_11 : decode prog_2_method_3_code 11 = .ok (.if_icmp .ge 23, 3) := by decide +kernel
theorem d1_14 : decode prog_2_method_3_code 14 = .ok (.dload_n 2, 1) := by decide +kernel
theorem d1_15 : decode prog_2_method_3_code 15 = .ok (.aload_n 0, 1) := by decide +kernel
theorem d1_16 : decode prog_2_method_3_code 16 = .ok (.iconst 1, 1) := by decide +kernel
theorem d1_17 : decode prog_2_method_3_code 17 = .ok (.iload 4, 2) := by decide +kernel
theorem d1_19 : decode prog_2_method_3_code 19 = .ok (.iadd, 1) := by decide +kernel
theorem d1_20 : decode prog_2_method_3_code 20 = .ok (.daload, 1) := by decide +kernel
theorem d1_21 : decode prog_2_method_3_code 21 = .ok (.aload_n 1, 1) := by decide +kernel
theorem d1_22 : decode prog_2_method_3_code 22 = .ok (.iload 4, 2) := by decide +kernel
theorem d1_24 : decode prog_2_method_3_code 24 = .ok (.daload, 1) := by decide +kernel
theorem d1_25 : decode prog_2_method_3_code 25 = .ok (.dmul, 1) := by decide +kernel
theorem d1_26 : decode prog_2_method_3_code 26 = .ok (.dadd, 1) := by decide +kernel
theorem d1_27 : decode prog_2_method_3_code 27 = .ok (.dstore_n 2, 1) := by decide +kernel
theorem d1_28 : decode prog_2_method_3_code 28 = .ok (.iinc 4 1, 3) := by decide +kernel
theorem d1_31 : decode prog_2_method_3_code 31 = .ok (.goto (-24), 3) := by decide +kernel
theorem d1_34 : decode prog_2_method_3_code 34 = .ok (.dload_n 2, 1) := by decide +kernel
theorem d1_35 : decode prog_2_method_3_code 35 = .ok (.dreturn, 1) := by decide +kernel
theorem pd_0 : parseMethodDescriptor "([D[D)D" = some ⟨[(.array .double), (.array .double)], some .double⟩ := by decide +kernel
theorem pn_1 : plainName "com/example/polytome/polytome/benchmark/LogLikelihood" = true := by first | (simp [plainName, overriddenIn]; done) | decide +kernel
theorem ef_1 (m : MethodId) (x0 : Addr) (x1 : Addr) : entryFrame m #[(.ref x0), (.ref x1)] 5 = mkF m 0 #[.val (.ref x0), .val (.ref x1), .unset, .unset, .unset] [] := by first | (simp [entryFrame, mkF, argsToLocals, Value.category]; done) | rfl
def Qm1_0 (Z : State) (a1 : Addr) (a2 : Addr) (ua : UInt64) (ub : UInt64) (uc : UInt64) (ux : UInt64) (uy : UInt64) (ia : Int) (ib : Int) (ic : Int) (ix : Int) (iy : Int) (h0 : Heap) (n0 : Nat) (v : Option Value) (h : Heap) (L : List Loc) : Prop := ∃ w, v = some (.double w) ∧ Dy (ia) 0 w ∧ Fr n0 L ∧ h = h0
set_option maxRecDepth 65536 in
set_option maxHeartbeats 40000000 in
theorem rm1_0 (l : Launch) (Z : State) (a0 : Array Value) (hw : ∀ d ∈ tables_1, d.before a0 Z = true) (ws : List Jvm.Cond) (a1 : Addr) (a2 : Addr) (ua : UInt64) (ub : UInt64) (uc : UInt64) (ux : UInt64) (uy : UInt64) (ia : Int) (ib : Int) (ic : Int) (ix : Int) (iy : Int) (h0 : Heap) (n0 : Nat) (Z0 : n0 ≤ h0.size) (G1 : Gar Z h0 a1 .double 3 (fun i => .double (own_f3 ua ub uc i))) (G2 : Gar Z h0 a2 .double 0 (fun i => .double (own_f2 ux uy i))) (ya : Dy ia 0 ua) (yb : Dy ib 0 ub) (yc : Dy ic 0 uc) (yx : Dy ix 0 ux) (yy : Dy iy 0 uy) (ba : ia.natAbs ≤ 1048576) (bb : ib.natAbs ≤ 1048576) (bc : ic.natAbs ≤ 1048576) (bx : ix.natAbs ≤ 1048576) (by_ : iy.natAbs ≤ 1048576) :
    MetFree l (⟨"com/example/polytome/polytome/benchmark/LogLikelihood", "score", "([D[D)D"⟩ : MethodName) (head1 (Jvm.Cond.code (⟨"com/example/polytome/polytome/benchmark/LogLikelihood", "score", "([D[D)D"⟩ : MethodName) prog_2_method_3_code 5 (some .double) :: ws) ({ frames := 0, cells := 0, slots := 0, locals := 0 } : Room)) (fun a U => a = #[(.ref a1), (.ref a2)] ∧ Z.Warmed39 U.vm ∧ U.heap = h0) (fun _ _ _ _ _ => True) (fun _ U o U' => ∃ v L, o = .returned v ∧ Qm1_0 Z a1 a2 ua ub uc ux uy ia ib ic ix iy h0 n0 v U'.heap L ∧ FrameEnd U o U' L ({ frames := 0, cells := 0, slots := 0, locals := 0 } : Room).cells ({ frames := 0, cells := 0, slots := 0, locals := 0 } : Room).slots) := by
  refine MetFree.of_bodySF (plainFor_of_name pn_1) hisR ?_
  intro p e s m args below meth c s₁ Bd hml0 hP hK
  obtain ⟨rfl, hZ, hh⟩ := hP
  have hx := Bd.exec
  have hby := Bd.bytes
  have hml : c.maxLocals = 5 := hml0
  have hown : s.vm.findClass "com/example/polytome/polytome/benchmark/LogLikelihood" = some m.cls := findClass_of_methodNamed Bd.named
  have hnm := (name_of_methodNamed Bd.named Bd.method).1
  have X0 : Stand p l e ({ frames := 0, cells := 0, slots := 0, locals := 0 } : Room) s m #[(.ref a1), (.ref a2)] below meth c s₁ [] 0 0 := Stand.of_body Bd
  have e0 : s₁.heap = h0 := by rw [← hh, Bd.state]; rfl
  have N0 := Fr.nil n0
  have pre0 : ∀ t, Steps p.tables e below (s₁.setTop (mkF m 0 #[.val (.ref a1), .val (.ref a2), .unset, .unset, .unset] [])) t → Steps p.tables e below (s₁.setTop (entryFrame m #[(.ref a1), (.ref a2)] 5)) t := fun t k => castTop (ef_1 m a1 a2) k
  obtain ⟨S0, hS0⟩ : ∃ z, z = s₁.setTop (mkF m 0 #[.val (.ref a1), .val (.ref a2), .unset, .unset, .unset] []) := ⟨_, rfl⟩
  have r0 : Steps p.tables e below S0 (s₁.setTop (mkF m 0 #[.val (.ref a1), .val (.ref a2), .unset, .unset, .unset] [])) := by rw [hS0]; exact Steps.refl _
  have m1 := own_prod bb bx
  have m2 := own_prod bc by_
  have r1 : Steps p.tables e below S0 (s₁.setTop (mkF m 35 #[.val (.ref a1), .val (.ref a2), .val (.double ua), .second, .val (.int (0 : Int32))] [(.double ua)])) := by
    refine r0.trans ?_
    show Steps p.tables e below (s₁.setTop (mkF m 0 #[.val (.ref a1), .val (.ref a2), .unset, .unset, .unset] [])) _
    refine XS.aloadN X0.here hx rfl (hb hby d1_0) rfl rfl ?_
    show Steps p.tables e below (s₁.setTop (mkF m 1 #[.val (.ref a1), .val (.ref a2), .unset, .unset, .unset] [(.ref a1)])) _
    refine XS.iconst X0.here hx rfl (hb hby d1_1) ?_
    show Steps p.tables e below (s₁.setTop (mkF m 2 #[.val (.ref a1), .val (.ref a2), .unset, .unset, .unset] [(.int (0 : Int32)), (.ref a1)])) _
    refine ldD X0 hx hZ e0 G1 (j := (0 : Int32)) (by decide) (by decide) (v := (.double ua)) rfl (g := (mkF m 2 #[.val (.ref a1), .val (.ref a2), .unset, .unset, .unset] [(.int (0 : Int32)), (.ref a1)])) rfl rfl (hb hby d1_2) _ ?_
    show Steps p.tables e below (s₁.setTop (mkF m 3 #[.val (.ref a1), .val (.ref a2), .unset, .unset, .unset] [(.double ua)])) _
    refine XS.dstoreN X0.here hx rfl (hb hby d1_3) rfl (l' := #[.val (.ref a1), .val (.ref a2), .val (.double ua), .second, .unset]) rfl ?_
    show Steps p.tables e below (s₁.setTop (mkF m 4 #[.val (.ref a1), .val (.ref a2), .val (.double ua), .second, .unset] [])) _
    refine XS.iconst X0.here hx rfl (hb hby d1_4) ?_
    show Steps p.tables e below (s₁.setTop (mkF m 5 #[.val (.ref a1), .val (.ref a2), .val (.double ua), .second, .unset] [(.int (0 : Int32))])) _
    refine XS.istore X0.here hx rfl (hb hby d1_5) rfl (l' := #[.val (.ref a1), .val (.ref a2), .val (.double ua), .second, .val (.int (0 : Int32))]) rfl ?_
    show Steps p.tables e below (s₁.setTop (mkF m 7 #[.val (.ref a1), .val (.ref a2), .val (.double ua), .second, .val (.int (0 : Int32))] [])) _
    refine XS.iload X0.here hx rfl (hb hby d1_7) rfl ?_
    show Steps p.tables e below (s₁.setTop (mkF m 9 #[.val (.ref a1), .val (.ref a2), .val (.double ua), .second, .val (.int (0 : Int32))] [(.int (0 : Int32))])) _
    refine XS.aloadN X0.here hx rfl (hb hby d1_9) rfl rfl ?_
    show Steps p.tables e below (s₁.setTop (mkF m 10 #[.val (.ref a1), .val (.ref a2), .val (.double ua), .second, .val (.int (0 : Int32))] [(.ref a2), (.int (0 : Int32))])) _
    refine lnG X0 hx hZ e0 G2 (z := (0 : Int32)) (by decide) (g := (mkF m 10 #[.val (.ref a1), .val (.ref a2), .val (.double ua), .second, .val (.int (0 : Int32))] [(.ref a2), (.int (0 : Int32))])) rfl rfl (hb hby d1_10) _ ?_
    show Steps p.tables e below (s₁.setTop (mkF m 11 #[.val (.ref a1), .val (.ref a2), .val (.double ua), .second, .val (.int (0 : Int32))] [(.int (0 : Int32)), (.int (0 : Int32))])) _
    refine XS.icmpYes X0.here hx rfl (pc0 := 11) (pc' := 34) rfl (hb hby d1_11) rfl (flt (by decide)).2.1 (by decide) (by decide) ?_
    show Steps p.tables e below (s₁.setTop (mkF m 34 #[.val (.ref a1), .val (.ref a2), .val (.double ua), .second, .val (.int (0 : Int32))] [])) _
    refine XS.dloadN X0.here hx rfl (hb hby d1_34) rfl ?_
    exact Steps.refl _
  obtain ⟨fs, hr, hrun, hended, hW, hsame⟩ := X0.leave (v := some (.double ua)) (fun h => by rw [Bd.returns] at h; cases h)
  refine ⟨_, _, pre0 _ ?_, hrun, hended, _, _, rfl, ?_, ⟨_, rfl⟩, hW, hsame.mono (by decide) (by decide)⟩
  · rw [← hS0]
    refine r1.trans ?_
    show Steps p.tables e below (s₁.setTop (mkF m 35 #[.val (.ref a1), .val (.ref a2), .val (.double ua), .second, .val (.int (0 : Int32))] [(.double ua)])) _
    exact retD X0 hx Bd.returns (hb hby d1_35) hr
  · exact ⟨_, rfl, ya, N0, e0⟩
def Qm1_1 (Z : State) (a1 : Addr) (a2 : Addr) (ua : UInt64) (ub : UInt64) (uc : UInt64) (ux : UInt64) (uy : UInt64) (ia : Int) (ib : Int) (ic : Int) (ix : Int) (iy : Int) (h0 : Heap) (n0 : Nat) (v : Option Value) (h : Heap) (L : List Loc) : Prop := ∃ w, v = some (.double w) ∧ Dy (ia + ib * ix) 0 w ∧ Fr n0 L ∧ h = h0
set_option maxRecDepth 65536 in
set_option maxHeartbeats 40000000 in
theorem rm1_1 (l : Launch) (Z : State) (a0 : Array Value) (hw : ∀ d ∈ tables_1, d.before a0 Z = true) (ws : List Jvm.Cond) (a1 : Addr) (a2 : Addr) (ua : UInt64) (ub : UInt64) (uc : UInt64) (ux : UInt64) (uy : UInt64) (ia : Int) (ib : Int) (ic : Int) (ix : Int) (iy : Int) (h0 : Heap) (n0 : Nat) (Z0 : n0 ≤ h0.size) (G1 : Gar Z h0 a1 .double 3 (fun i => .double (own_f3 ua ub uc i))) (G2 : Gar Z h0 a2 .double 1 (fun i => .double (own_f2 ux uy i))) (ya : Dy ia 0 ua) (yb : Dy ib 0 ub) (yc : Dy ic 0 uc) (yx : Dy ix 0 ux) (yy : Dy iy 0 uy) (ba : ia.natAbs ≤ 1048576) (bb : ib.natAbs ≤ 1048576) (bc : ic.natAbs ≤ 1048576) (bx : ix.natAbs ≤ 1048576) (by_ : iy.natAbs ≤ 1048576) :
    MetFree l (⟨"com/example/polytome/polytome/benchmark/LogLikelihood", "score", "([D[D)D"⟩ : MethodName) (head1 (Jvm.Cond.code (⟨"com/example/polytome/polytome/benchmark/LogLikelihood", "score", "([D[D)D"⟩ : MethodName) prog_2_method_3_code 5 (some .double) :: ws) ({ frames := 0, cells := 0, slots := 0, locals := 0 } : Room)) (fun a U => a = #[(.ref a1), (.ref a2)] ∧ Z.Warmed39 U.vm ∧ U.heap = h0) (fun _ _ _ _ _ => True) (fun _ U o U' => ∃ v L, o = .returned v ∧ Qm1_1 Z a1 a2 ua ub uc ux uy ia ib ic ix iy h0 n0 v U'.heap L ∧ FrameEnd U o U' L ({ frames := 0, cells := 0, slots := 0, locals := 0 } : Room).cells ({ frames := 0, cells := 0, slots := 0, locals := 0 } : Room).slots) := by
  refine MetFree.of_bodySF (plainFor_of_name pn_1) hisR ?_
  intro p e s m args below meth c s₁ Bd hml0 hP hK
  obtain ⟨rfl, hZ, hh⟩ := hP
  have hx := Bd.exec
  have hby := Bd.bytes
  have hml : c.maxLocals = 5 := hml0
  have hown : s.vm.findClass "com/example/polytome/polytome/benchmark/LogLikelihood" = some m.cls := findClass_of_methodNamed Bd.named
  have hnm := (name_of_methodNamed Bd.named Bd.method).1
  have X0 : Stand p l e ({ frames := 0, cells := 0, slots := 0, locals := 0 } : Room) s m #[(.ref a1), (.ref a2)] below meth c s₁ [] 0 0 := Stand.of_body Bd
  have e0 : s₁.heap = h0 := by rw [← hh, Bd.state]; rfl
  have N0 := Fr.nil n0
  have pre0 : ∀ t, Steps p.tables e below (s₁.setTop (mkF m 0 #[.val (.ref a1), .val (.ref a2), .unset, .unset, .unset] [])) t → Steps p.tables e below (s₁.setTop (entryFrame m #[(.ref a1), (.ref a2)] 5)) t := fun t k => castTop (ef_1 m a1 a2) k
  obtain ⟨S0, hS0⟩ : ∃ z, z = s₁.setTop (mkF m 0 #[.val (.ref a1), .val (.ref a2), .unset, .unset, .unset] []) := ⟨_, rfl⟩
  have r0 : Steps p.tables e below S0 (s₁.setTop (mkF m 0 #[.val (.ref a1), .val (.ref a2), .unset, .unset, .unset] [])) := by rw [hS0]; exact Steps.refl _
  have m1 := own_prod bb bx
  have m2 := own_prod bc by_
  obtain ⟨m5, hm5⟩ : ∃ z, FP.dmul ub ux = z := ⟨_, rfl⟩
  have ym5 : Dy (ib * ix) 0 m5 := hm5 ▸ (yb.mul yx (by omega) (by decide))
  obtain ⟨s0, hs0⟩ : ∃ z, FP.dadd ua m5 = z := ⟨_, rfl⟩
  have ys0 : Dy (ia + ib * ix) 0 s0 := hs0 ▸ (ya.add ym5 (by omega) (by decide))
  have r2 : Steps p.tables e below S0 (s₁.setTop (mkF m 35 #[.val (.ref a1), .val (.ref a2), .val (.double s0), .second, .val (.int ((0 : Int32) + (1 : Int32)))] [(.double s0)])) := by
    refine r0.trans ?_
    show Steps p.tables e below (s₁.setTop (mkF m 0 #[.val (.ref a1), .val (.ref a2), .unset, .unset, .unset] [])) _
    refine XS.aloadN X0.here hx rfl (hb hby d1_0) rfl rfl ?_
    show Steps p.tables e below (s₁.setTop (mkF m 1 #[.val (.ref a1), .val (.ref a2), .unset, .unset, .unset] [(.ref a1)])) _
    refine XS.iconst X0.here hx rfl (hb hby d1_1) ?_
    show Steps p.tables e below (s₁.setTop (mkF m 2 #[.val (.ref a1), .val (.ref a2), .unset, .unset, .unset] [(.int (0 : Int32)), (.ref a1)])) _
    refine ldD X0 hx hZ e0 G1 (j := (0 : Int32)) (by decide) (by decide) (v := (.double ua)) rfl (g := (mkF m 2 #[.val (.ref a1), .val (.ref a2), .unset, .unset, .unset] [(.int (0 : Int32)), (.ref a1)])) rfl rfl (hb hby d1_2) _ ?_
    show Steps p.tables e below (s₁.setTop (mkF m 3 #[.val (.ref a1), .val (.ref a2), .unset, .unset, .unset] [(.double ua)])) _
    refine XS.dstoreN X0.here hx rfl (hb hby d1_3) rfl (l' := #[.val (.ref a1), .val (.ref a2), .val (.double ua), .second, .unset]) rfl ?_
    show Steps p.tables e below (s₁.setTop (mkF m 4 #[.val (.ref a1), .val (.ref a2), .val (.double ua), .second, .unset] [])) _
    refine XS.iconst X0.here hx rfl (hb hby d1_4) ?_
    show Steps p.tables e below (s₁.setTop (mkF m 5 #[.val (.ref a1), .val (.ref a2), .val (.double ua), .second, .unset] [(.int (0 : Int32))])) _
    refine XS.istore X0.here hx rfl (hb hby d1_5) rfl (l' := #[.val (.ref a1), .val (.ref a2), .val (.double ua), .second, .val (.int (0 : Int32))]) rfl ?_
    show Steps p.tables e below (s₁.setTop (mkF m 7 #[.val (.ref a1), .val (.ref a2), .val (.double ua), .second, .val (.int (0 : Int32))] [])) _
    refine XS.iload X0.here hx rfl (hb hby d1_7) rfl ?_
    show Steps p.tables e below (s₁.setTop (mkF m 9 #[.val (.ref a1), .val (.ref a2), .val (.double ua), .second, .val (.int (0 : Int32))] [(.int (0 : Int32))])) _
    refine XS.aloadN X0.here hx rfl (hb hby d1_9) rfl rfl ?_
    show Steps p.tables e below (s₁.setTop (mkF m 10 #[.val (.ref a1), .val (.ref a2), .val (.double ua), .second, .val (.int (0 : Int32))] [(.ref a2), (.int (0 : Int32))])) _
    refine lnG X0 hx hZ e0 G2 (z := (1 : Int32)) (by decide) (g := (mkF m 10 #[.val (.ref a1), .val (.ref a2), .val (.double ua), .second, .val (.int (0 : Int32))] [(.ref a2), (.int (0 : Int32))])) rfl rfl (hb hby d1_10) _ ?_
    show Steps p.tables e below (s₁.setTop (mkF m 11 #[.val (.ref a1), .val (.ref a2), .val (.double ua), .second, .val (.int (0 : Int32))] [(.int (1 : Int32)), (.int (0 : Int32))])) _
    refine XS.icmpNo X0.here hx rfl (hb hby d1_11) rfl (tlt (by decide)).2.1 ?_
    show Steps p.tables e below (s₁.setTop (mkF m 14 #[.val (.ref a1), .val (.ref a2), .val (.double ua), .second, .val (.int (0 : Int32))] [])) _
    refine XS.dloadN X0.here hx rfl (hb hby d1_14) rfl ?_
    show Steps p.tables e below (s₁.setTop (mkF m 15 #[.val (.ref a1), .val (.ref a2), .val (.double ua), .second, .val (.int (0 : Int32))] [(.double ua)])) _
    refine XS.aloadN X0.here hx rfl (hb hby d1_15) rfl rfl ?_
    show Steps p.tables e below (s₁.setTop (mkF m 16 #[.val (.ref a1), .val (.ref a2), .val (.double ua), .second, .val (.int (0 : Int32))] [(.ref a1), (.double ua)])) _
    refine XS.iconst X0.here hx rfl (hb hby d1_16) ?_
    show Steps p.tables e below (s₁.setTop (mkF m 17 #[.val (.ref a1), .val (.ref a2), .val (.double ua), .second, .val (.int (0 : Int32))] [(.int (1 : Int32)), (.ref a1), (.double ua)])) _
    refine XS.iload X0.here hx rfl (hb hby d1_17) rfl ?_
    show Steps p.tables e below (s₁.setTop (mkF m 19 #[.val (.ref a1), .val (.ref a2), .val (.double ua), .second, .val (.int (0 : Int32))] [(.int (0 : Int32)), (.int (1 : Int32)), (.ref a1), (.double ua)])) _
    refine XS.iadd X0.here hx rfl (hb hby d1_19) rfl ?_
    show Steps p.tables e below (s₁.setTop (mkF m 20 #[.val (.ref a1), .val (.ref a2), .val (.double ua), .second, .val (.int (0 : Int32))] [(.int ((1 : Int32) + (0 : Int32))), (.ref a1), (.double ua)])) _
    refine ldD X0 hx hZ e0 G1 (j := ((1 : Int32) + (0 : Int32))) (by decide) (by decide) (v := (.double ub)) rfl (g := (mkF m 20 #[.val (.ref a1), .val (.ref a2), .val (.double ua), .second, .val (.int (0 : Int32))] [(.int ((1 : Int32) + (0 : Int32))), (.ref a1), (.double ua)])) rfl rfl (hb hby d1_20) _ ?_
    show Steps p.tables e below (s₁.setTop (mkF m 21 #[.val (.ref a1), .val (.ref a2), .val (.double ua), .second, .val (.int (0 : Int32))] [(.double ub), (.double ua)])) _
    refine XS.aloadN X0.here hx rfl (hb hby d1_21) rfl rfl ?_
    show Steps p.tables e below (s₁.setTop (mkF m 22 #[.val (.ref a1), .val (.ref a2), .val (.double ua), .second, .val (.int (0 : Int32))] [(.ref a2), (.double ub), (.double ua)])) _
    refine XS.iload X0.here hx rfl (hb hby d1_22) rfl ?_
    show Steps p.tables e below (s₁.setTop (mkF m 24 #[.val (.ref a1), .val (.ref a2), .val (.double ua), .second, .val (.int (0 : Int32))] [(.int (0 : Int32)), (.ref a2), (.double ub), (.double ua)])) _
    refine ldD X0 hx hZ e0 G2 (j := (0 : Int32)) (by decide) (by decide) (v := (.double ux)) rfl (g := (mkF m 24 #[.val (.ref a1), .val (.ref a2), .val (.double ua), .second, .val (.int (0 : Int32))] [(.int (0 : Int32)), (.ref a2), (.double ub), (.double ua)])) rfl rfl (hb hby d1_24) _ ?_
    show Steps p.tables e below (s₁.setTop (mkF m 25 #[.val (.ref a1), .val (.ref a2), .val (.double ua), .second, .val (.int (0 : Int32))] [(.double ux), (.double ub), (.double ua)])) _
    refine XS.dmulS X0.here hx rfl (hb hby d1_25) rfl (by rw [hm5]; exact ym5.noNaN) hm5 ?_
    show Steps p.tables e below (s₁.setTop (mkF m 26 #[.val (.ref a1), .val (.ref a2), .val (.double ua), .second, .val (.int (0 : Int32))] [(.double m5), (.double ua)])) _
    refine XS.daddS X0.here hx rfl (hb hby d1_26) rfl (by rw [hs0]; exact ys0.noNaN) hs0 ?_
    show Steps p.tables e below (s₁.setTop (mkF m 27 #[.val (.ref a1), .val (.ref a2), .val (.double ua), .second, .val (.int (0 : Int32))] [(.double s0)])) _
    refine XS.dstoreN X0.here hx rfl (hb hby d1_27) rfl (l' := #[.val (.ref a1), .val (.ref a2), .val (.double s0), .second, .val (.int (0 : Int32))]) rfl ?_
    show Steps p.tables e below (s₁.setTop (mkF m 28 #[.val (.ref a1), .val (.ref a2), .val (.double s0), .second, .val (.int (0 : Int32))] [])) _
    refine XS.iinc X0.here hx rfl (hb hby d1_28) rfl (l' := #[.val (.ref a1), .val (.ref a2), .val (.double s0), .second, .val (.int ((0 : Int32) + (1 : Int32)))]) rfl ?_
    show Steps p.tables e below (s₁.setTop (mkF m 31 #[.val (.ref a1), .val (.ref a2), .val (.double s0), .second, .val (.int ((0 : Int32) + (1 : Int32)))] [])) _
    refine XS.goto X0.here hx rfl (pc0 := 31) (pc' := 7) rfl (hb hby d1_31) (by decide) (by decide) ?_
    show Steps p.tables e below (s₁.setTop (mkF m 7 #[.val (.ref a1), .val (.ref a2), .val (.double s0), .second, .val (.int ((0 : Int32) + (1 : Int32)))] [])) _
    refine XS.iload X0.here hx rfl (hb hby d1_7) rfl ?_
    show Steps p.tables e below (s₁.setTop (mkF m 9 #[.val (.ref a1), .val (.ref a2), .val (.double s0), .second, .val (.int ((0 : Int32) + (1 : Int32)))] [(.int ((0 : Int32) + (1 : Int32)))])) _
    refine XS.aloadN X0.here hx rfl (hb hby d1_9) rfl rfl ?_
    show Steps p.tables e below (s₁.setTop (mkF m 10 #[.val (.ref a1), .val (.ref a2), .val (.double s0), .second, .val (.int ((0 : Int32) + (1 : Int32)))] [(.ref a2), (.int ((0 : Int32) + (1 : Int32)))])) _
    refine lnG X0 hx hZ e0 G2 (z := (1 : Int32)) (by decide) (g := (mkF m 10 #[.val (.ref a1), .val (.ref a2), .val (.double s0), .second, .val (.int ((0 : Int32) + (1 : Int32)))] [(.ref a2), (.int ((0 : Int32) + (1 : Int32)))])) rfl rfl (hb hby d1_10) _ ?_
    show Steps p.tables e below (s₁.setTop (mkF m 11 #[.val (.ref a1), .val (.ref a2), .val (.double s0), .second, .val (.int ((0 : Int32) + (1 : Int32)))] [(.int (1 : Int32)), (.int ((0 : Int32) + (1 : Int32)))])) _
    refine XS.icmpYes X0.here hx rfl (pc0 := 11) (pc' := 34) rfl (hb hby d1_11) rfl (flt (by decide)).2.1 (by decide) (by decide) ?_
    show Steps p.tables e below (s₁.setTop (mkF m 34 #[.val (.ref a1), .val (.ref a2), .val (.double s0), .second, .val (.int ((0 : Int32) + (1 : Int32)))] [])) _
    refine XS.dloadN X0.here hx rfl (hb hby d1_34) rfl ?_
    exact Steps.refl _
  obtain ⟨fs, hr, hrun, hended, hW, hsame⟩ := X0.leave (v := some (.double s0)) (fun h => by rw [Bd.returns] at h; cases h)
  refine ⟨_, _, pre0 _ ?_, hrun, hended, _, _, rfl, ?_, ⟨_, rfl⟩, hW, hsame.mono (by decide) (by decide)⟩
  · rw [← hS0]
    refine r2.trans ?_
    show Steps p.tables e below (s₁.setTop (mkF m 35 #[.val (.ref a1), .val (.ref a2), .val (.double s0), .second, .val (.int ((0 : Int32) + (1 : Int32)))] [(.double s0)])) _
    exact retD X0 hx Bd.returns (hb hby d1_35) hr
  · exact ⟨_, rfl, ys0, N0, e0⟩
def Qm1_2 (Z : State) (a1 : Addr) (a2 : Addr) (ua : UInt64) (ub : UInt64) (uc : UInt64) (ux : UInt64) (uy : UInt64) (ia : Int) (ib : Int) (ic : Int) (ix : Int) (iy : Int) (h0 : Heap) (n0 : Nat) (v : Option Value) (h : Heap) (L : List Loc) : Prop := ∃ w, v = some (.double w) ∧ Dy (ia + ib * ix + ic * iy) 0 w ∧ Fr n0 L ∧ h = h0
set_option maxRecDepth 65536 in
set_option maxHeartbeats 40000000 in
theorem rm1_2 (l : Launch) (Z : State) (a0 : Array Value) (hw : ∀ d ∈ tables_1, d.before a0 Z = true) (ws : List Jvm.Cond) (a1 : Addr) (a2 : Addr) (ua : UInt64) (ub : UInt64) (uc : UInt64) (ux : UInt64) (uy : UInt64) (ia : Int) (ib : Int) (ic : Int) (ix : Int) (iy : Int) (h0 : Heap) (n0 : Nat) (Z0 : n0 ≤ h0.size) (G1 : Gar Z h0 a1 .double 3 (fun i => .double (own_f3 ua ub uc i))) (G2 : Gar Z h0 a2 .double 2 (fun i => .double (own_f2 ux uy i))) (ya : Dy ia 0 ua) (yb : Dy ib 0 ub) (yc : Dy ic 0 uc) (yx : Dy ix 0 ux) (yy : Dy iy 0 uy) (ba : ia.natAbs ≤ 1048576) (bb : ib.natAbs ≤ 1048576) (bc : ic.natAbs ≤ 1048576) (bx : ix.natAbs ≤ 1048576) (by_ : iy.natAbs ≤ 1048576) :
    MetFree l (⟨"com/example/polytome/polytome/benchmark/LogLikelihood", "score", "([D[D)D"⟩ : MethodName) (head1 (Jvm.Cond.code (⟨"com/example/polytome/polytome/benchmark/LogLikelihood", "score", "([D[D)D"⟩ : MethodName) prog_2_method_3_code 5 (some .double) :: ws) ({ frames := 0, cells := 0, slots := 0, locals := 0 } : Room)) (fun a U => a = #[(.ref a1), (.ref a2)] ∧ Z.Warmed39 U.vm ∧ U.heap = h0) (fun _ _ _ _ _ => True) (fun _ U o U' => ∃ v L, o = .returned v ∧ Qm1_2 Z a1 a2 ua ub uc ux uy ia ib ic ix iy h0 n0 v U'.heap L ∧ FrameEnd U o U' L ({ frames := 0, cells := 0, slots := 0, locals := 0 } : Room).cells ({ frames := 0, cells := 0, slots := 0, locals := 0 } : Room).slots) := by
  refine MetFree.of_bodySF (plainFor_of_name pn_1) hisR ?_
  intro p e s m args below meth c s₁ Bd hml0 hP hK
  obtain ⟨rfl, hZ, hh⟩ := hP
  have hx := Bd.exec
  have hby := Bd.bytes
  have hml : c.maxLocals = 5 := hml0
  have hown : s.vm.findClass "com/example/polytome/polytome/benchmark/LogLikelihood" = some m.cls := findClass_of_methodNamed Bd.named
  have hnm := (name_of_methodNamed Bd.named Bd.method).1
  have X0 : Stand p l e ({ frames := 0, cells := 0, slots := 0, locals := 0 } : Room) s m #[(.ref a1), (.ref a2)] below meth c s₁ [] 0 0 := Stand.of_body Bd
  have e0 : s₁.heap = h0 := by rw [← hh, Bd.state]; rfl
  have N0 := Fr.nil n0
  have pre0 : ∀ t, Steps p.tables e below (s₁.setTop (mkF m 0 #[.val (.ref a1), .val (.ref a2), .unset, .unset, .unset] [])) t → Steps p.tables e below (s₁.setTop (entryFrame m #[(.ref a1), (.ref a2)] 5)) t := fun t k => castTop (ef_1 m a1 a2) k
  obtain ⟨S0, hS0⟩ : ∃ z, z = s₁.setTop (mkF m 0 #[.val (.ref a1), .val (.ref a2), .unset, .unset, .unset] []) := ⟨_, rfl⟩
  have r0 : Steps p.tables e below S0 (s₁.setTop (mkF m 0 #[.val (.ref a1), .val (.ref a2), .unset, .unset, .unset] [])) := by rw [hS0]; exact Steps.refl _
  have m1 := own_prod bb bx
  have m2 := own_prod bc by_
  obtain ⟨m5, hm5⟩ : ∃ z, FP.dmul ub ux = z := ⟨_, rfl⟩
  have ym5 : Dy (ib * ix) 0 m5 := hm5 ▸ (yb.mul yx (by omega) (by decide))
  obtain ⟨s0, hs0⟩ : ∃ z, FP.dadd ua m5 = z := ⟨_, rfl⟩
  have ys0 : Dy (ia + ib * ix) 0 s0 := hs0 ▸ (ya.add ym5 (by omega) (by decide))
  obtain ⟨m6, hm6⟩ : ∃ z, FP.dmul uc uy = z := ⟨_, rfl⟩
  have ym6 : Dy (ic * iy) 0 m6 := hm6 ▸ (yc.mul yy (by omega) (by decide))
  obtain ⟨s1, hs1⟩ : ∃ z, FP.dadd s0 m6 = z := ⟨_, rfl⟩
  have ys1 : Dy (ia + ib * ix + ic * iy) 0 s1 := hs1 ▸ (ys0.add ym6 (by omega) (by decide))
  have r3 : Steps p.tables e below S0 (s₁.setTop (mkF m 35 #[.val (.ref a1), .val (.ref a2), .val (.double s1), .second, .val (.int (((0 : Int32) + (1 : Int32)) + (1 : Int32)))] [(.double s1)])) := by
    refine r0.trans ?_
    show Steps p.tables e below (s₁.setTop (mkF m 0 #[.val (.ref a1), .val (.ref a2), .unset, .unset, .unset] [])) _
    refine XS.aloadN X0.here hx rfl (hb hby d1_0) rfl rfl ?_
    show Steps p.tables e below (s₁.setTop (mkF m 1 #[.val (.ref a1), .val (.ref a2), .unset, .unset, .unset] [(.ref a1)])) _
    refine XS.iconst X0.here hx rfl (hb hby d1_1) ?_
    show Steps p.tables e below (s₁.setTop (mkF m 2 #[.val (.ref a1), .val (.ref a2), .unset, .unset, .unset] [(.int (0 : Int32)), (.ref a1)])) _
    refine ldD X0 hx hZ e0 G1 (j := (0 : Int32)) (by decide) (by decide) (v := (.double ua)) rfl (g := (mkF m 2 #[.val (.ref a1), .val (.ref a2), .unset, .unset, .unset] [(.int (0 : Int32)), (.ref a1)])) rfl rfl (hb hby d1_2) _ ?_
    show Steps p.tables e below (s₁.setTop (mkF m 3 #[.val (.ref a1), .val (.ref a2), .unset, .unset, .unset] [(.double ua)])) _
    refine XS.dstoreN X0.here hx rfl (hb hby d1_3) rfl (l' := #[.val (.ref a1), .val (.ref a2), .val (.double ua), .second, .unset]) rfl ?_
    show Steps p.tables e below (s₁.setTop (mkF m 4 #[.val (.ref a1), .val (.ref a2), .val (.double ua), .second, .unset] [])) _
    refine XS.iconst X0.here hx rfl (hb hby d1_4) ?_
    show Steps p.tables e below (s₁.setTop (mkF m 5 #[.val (.ref a1), .val (.ref a2), .val (.double ua), .second, .unset] [(.int (0 : Int32))])) _
    refine XS.istore X0.here hx rfl (hb hby d1_5) rfl (l' := #[.val (.ref a1), .val (.ref a2), .val (.double ua), .second, .val (.int (0 : Int32))]) rfl ?_
    show Steps p.tables e below (s₁.setTop (mkF m 7 #[.val (.ref a1), .val (.ref a2), .val (.double ua), .second, .val (.int (0 : Int32))] [])) _
    refine XS.iload X0.here hx rfl (hb hby d1_7) rfl ?_
    show Steps p.tables e below (s₁.setTop (mkF m 9 #[.val (.ref a1), .val (.ref a2), .val (.double ua), .second, .val (.int (0 : Int32))] [(.int (0 : Int32))])) _
    refine XS.aloadN X0.here hx rfl (hb hby d1_9) rfl rfl ?_
    show Steps p.tables e below (s₁.setTop (mkF m 10 #[.val (.ref a1), .val (.ref a2), .val (.double ua), .second, .val (.int (0 : Int32))] [(.ref a2), (.int (0 : Int32))])) _
    refine lnG X0 hx hZ e0 G2 (z := (2 : Int32)) (by decide) (g := (mkF m 10 #[.val (.ref a1), .val (.ref a2), .val (.double ua), .second, .val (.int (0 : Int32))] [(.ref a2), (.int (0 : Int32))])) rfl rfl (hb hby d1_10) _ ?_
    show Steps p.tables e below (s₁.setTop (mkF m 11 #[.val (.ref a1), .val (.ref a2), .val (.double ua), .second, .val (.int (0 : Int32))] [(.int (2 : Int32)), (.int (0 : Int32))])) _
    refine XS.icmpNo X0.here hx rfl (hb hby d1_11) rfl (tlt (by decide)).2.1 ?_
    show Steps p.tables e below (s₁.setTop (mkF m 14 #[.val (.ref a1), .val (.ref a2), .val (.double ua), .second, .val (.int (0 : Int32))] [])) _
    refine XS.dloadN X0.here hx rfl (hb hby d1_14) rfl ?_
    show Steps p.tables e below (s₁.setTop (mkF m 15 #[.val (.ref a1), .val (.ref a2), .val (.double ua), .second, .val (.int (0 : Int32))] [(.double ua)])) _
    refine XS.aloadN X0.here hx rfl (hb hby d1_15) rfl rfl ?_
    show Steps p.tables e below (s₁.setTop (mkF m 16 #[.val (.ref a1), .val (.ref a2), .val (.double ua), .second, .val (.int (0 : Int32))] [(.ref a1), (.double ua)])) _
    refine XS.iconst X0.here hx rfl (hb hby d1_16) ?_
    show Steps p.tables e below (s₁.setTop (mkF m 17 #[.val (.ref a1), .val (.ref a2), .val (.double ua), .second, .val (.int (0 : Int32))] [(.int (1 : Int32)), (.ref a1), (.double ua)])) _
    refine XS.iload X0.here hx rfl (hb hby d1_17) rfl ?_
    show Steps p.tables e below (s₁.setTop (mkF m 19 #[.val (.ref a1), .val (.ref a2), .val (.double ua), .second, .val (.int (0 : Int32))] [(.int (0 : Int32)), (.int (1 : Int32)), (.ref a1), (.double ua)])) _
    refine XS.iadd X0.here hx rfl (hb hby d1_19) rfl ?_
    show Steps p.tables e below (s₁.setTop (mkF m 20 #[.val (.ref a1), .val (.ref a2), .val (.double ua), .second, .val (.int (0 : Int32))] [(.int ((1 : Int32) + (0 : Int32))), (.ref a1), (.double ua)])) _
    refine ldD X0 hx hZ e0 G1 (j := ((1 : Int32) + (0 : Int32))) (by decide) (by decide) (v := (.double ub)) rfl (g := (mkF m 20 #[.val (.ref a1), .val (.ref a2), .val (.double ua), .second, .val (.int (0 : Int32))] [(.int ((1 : Int32) + (0 : Int32))), (.ref a1), (.double ua)])) rfl rfl (hb hby d1_20) _ ?_
    show Steps p.tables e below (s₁.setTop (mkF m 21 #[.val (.ref a1), .val (.ref a2), .val (.double ua), .second, .val (.int (0 : Int32))] [(.double ub), (.double ua)])) _
    refine XS.aloadN X0.here hx rfl (hb hby d1_21) rfl rfl ?_
    show Steps p.tables e below (s₁.setTop (mkF m 22 #[.val (.ref a1), .val (.ref a2), .val (.double ua), .second, .val (.int (0 : Int32))] [(.ref a2), (.double ub), (.double ua)])) _
    refine XS.iload X0.here hx rfl (hb hby d1_22) rfl ?_
    show Steps p.tables e below (s₁.setTop (mkF m 24 #[.val (.ref a1), .val (.ref a2), .val (.double ua), .second, .val (.int (0 : Int32))] [(.int (0 : Int32)), (.ref a2), (.double ub), (.double ua)])) _
    refine ldD X0 hx hZ e0 G2 (j := (0 : Int32)) (by decide) (by decide) (v := (.double ux)) rfl (g := (mkF m 24 #[.val (.ref a1), .val (.ref a2), .val (.double ua), .second, .val (.int (0 : Int32))] [(.int (0 : Int32)), (.ref a2), (.double ub), (.double ua)])) rfl rfl (hb hby d1_24) _ ?_
    show Steps p.tables e below (s₁.setTop (mkF m 25 #[.val (.ref a1), .val (.ref a2), .val (.double ua), .second, .val (.int (0 : Int32))] [(.double ux), (.double ub), (.double ua)])) _
    refine XS.dmulS X0.here hx rfl (hb hby d1_25) rfl (by rw [hm5]; exact ym5.noNaN) hm5 ?_
    show Steps p.tables e below (s₁.setTop (mkF m 26 #[.val (.ref a1), .val (.ref a2), .val (.double ua), .second, .val (.int (0 : Int32))] [(.double m5), (.double ua)])) _
    refine XS.daddS X0.here hx rfl (hb hby d1_26) rfl (by rw [hs0]; exact ys0.noNaN) hs0 ?_
    show Steps p.tables e below (s₁.setTop (mkF m 27 #[.val (.ref a1), .val (.ref a2), .val (.double ua), .second, .val (.int (0 : Int32))] [(.double s0)])) _
    refine XS.dstoreN X0.here hx rfl (hb hby d1_27) rfl (l' := #[.val (.ref a1), .val (.ref a2), .val (.double s0), .second, .val (.int (0 : Int32))]) rfl ?_
    show Steps p.tables e below (s₁.setTop (mkF m 28 #[.val (.ref a1), .val (.ref a2), .val (.double s0), .second, .val (.int (0 : Int32))] [])) _
    refine XS.iinc X0.here hx rfl (hb hby d1_28) rfl (l' := #[.val (.ref a1), .val (.ref a2), .val (.double s0), .second, .val (.int ((0 : Int32) + (1 : Int32)))]) rfl ?_
    show Steps p.tables e below (s₁.setTop (mkF m 31 #[.val (.ref a1), .val (.ref a2), .val (.double s0), .second, .val (.int ((0 : Int32) + (1 : Int32)))] [])) _
    refine XS.goto X0.here hx rfl (pc0 := 31) (pc' := 7) rfl (hb hby d1_31) (by decide) (by decide) ?_
    show Steps p.tables e below (s₁.setTop (mkF m 7 #[.val (.ref a1), .val (.ref a2), .val (.double s0), .second, .val (.int ((0 : Int32) + (1 : Int32)))] [])) _
    refine XS.iload X0.here hx rfl (hb hby d1_7) rfl ?_
    show Steps p.tables e below (s₁.setTop (mkF m 9 #[.val (.ref a1), .val (.ref a2), .val (.double s0), .second, .val (.int ((0 : Int32) + (1 : Int32)))] [(.int ((0 : Int32) + (1 : Int32)))])) _
    refine XS.aloadN X0.here hx rfl (hb hby d1_9) rfl rfl ?_
    show Steps p.tables e below (s₁.setTop (mkF m 10 #[.val (.ref a1), .val (.ref a2), .val (.double s0), .second, .val (.int ((0 : Int32) + (1 : Int32)))] [(.ref a2), (.int ((0 : Int32) + (1 : Int32)))])) _
    refine lnG X0 hx hZ e0 G2 (z := (2 : Int32)) (by decide) (g := (mkF m 10 #[.val (.ref a1), .val (.ref a2), .val (.double s0), .second, .val (.int ((0 : Int32) + (1 : Int32)))] [(.ref a2), (.int ((0 : Int32) + (1 : Int32)))])) rfl rfl (hb hby d1_10) _ ?_
    show Steps p.tables e below (s₁.setTop (mkF m 11 #[.val (.ref a1), .val (.ref a2), .val (.double s0), .second, .val (.int ((0 : Int32) + (1 : Int32)))] [(.int (2 : Int32)), (.int ((0 : Int32) + (1 : Int32)))])) _
    refine XS.icmpNo X0.here hx rfl (hb hby d1_11) rfl (tlt (by decide)).2.1 ?_
    show Steps p.tables e below (s₁.setTop (mkF m 14 #[.val (.ref a1), .val (.ref a2), .val (.double s0), .second, .val (.int ((0 : Int32) + (1 : Int32)))] [])) _
    refine XS.dloadN X0.here hx rfl (hb hby d1_14) rfl ?_
    show Steps p.tables e below (s₁.setTop (mkF m 15 #[.val (.ref a1), .val (.ref a2), .val (.double s0), .second, .val (.int ((0 : Int32) + (1 : Int32)))] [(.double s0)])) _
    refine XS.aloadN X0.here hx rfl (hb hby d1_15) rfl rfl ?_
    show Steps p.tables e below (s₁.setTop (mkF m 16 #[.val (.ref a1), .val (.ref a2), .val (.double s0), .second, .val (.int ((0 : Int32) + (1 : Int32)))] [(.ref a1), (.double s0)])) _
    refine XS.iconst X0.here hx rfl (hb hby d1_16) ?_
    show Steps p.tables e below (s₁.setTop (mkF m 17 #[.val (.ref a1), .val (.ref a2), .val (.double s0), .second, .val (.int ((0 : Int32) + (1 : Int32)))] [(.int (1 : Int32)), (.ref a1), (.double s0)])) _
    refine XS.iload X0.here hx rfl (hb hby d1_17) rfl ?_
    show Steps p.tables e below (s₁.setTop (mkF m 19 #[.val (.ref a1), .val (.ref a2), .val (.double s0), .second, .val (.int ((0 : Int32) + (1 : Int32)))] [(.int ((0 : Int32) + (1 : Int32))), (.int (1 : Int32)), (.ref a1), (.double s0)])) _
    refine XS.iadd X0.here hx rfl (hb hby d1_19) rfl ?_
    show Steps p.tables e below (s₁.setTop (mkF m 20 #[.val (.ref a1), .val (.ref a2), .val (.double s0), .second, .val (.int ((0 : Int32) + (1 : Int32)))] [(.int ((1 : Int32) + ((0 : Int32) + (1 : Int32)))), (.ref a1), (.double s0)])) _
    refine ldD X0 hx hZ e0 G1 (j := ((1 : Int32) + ((0 : Int32) + (1 : Int32)))) (by decide) (by decide) (v := (.double uc)) rfl (g := (mkF m 20 #[.val (.ref a1), .val (.ref a2), .val (.double s0), .second, .val (.int ((0 : Int32) + (1 : Int32)))] [(.int ((1 : Int32) + ((0 : Int32) + (1 : Int32)))), (.ref a1), (.double s0)])) rfl rfl (hb hby d1_20) _ ?_
    show Steps p.tables e below (s₁.setTop (mkF m 21 #[.val (.ref a1), .val (.ref a2), .val (.double s0), .second, .val (.int ((0 : Int32) + (1 : Int32)))] [(.double uc), (.double s0)])) _
    refine XS.aloadN X0.here hx rfl (hb hby d1_21) rfl rfl ?_
    show Steps p.tables e below (s₁.setTop (mkF m 22 #[.val (.ref a1), .val (.ref a2), .val (.double s0), .second, .val (.int ((0 : Int32) + (1 : Int32)))] [(.ref a2), (.double uc), (.double s0)])) _
    refine XS.iload X0.here hx rfl (hb hby d1_22) rfl ?_
    show Steps p.tables e below (s₁.setTop (mkF m 24 #[.val (.ref a1), .val (.ref a2), .val (.double s0), .second, .val (.int ((0 : Int32) + (1 : Int32)))] [(.int ((0 : Int32) + (1 : Int32))), (.ref a2), (.double uc), (.double s0)])) _
    refine ldD X0 hx hZ e0 G2 (j := ((0 : Int32) + (1 : Int32))) (by decide) (by decide) (v := (.double uy)) rfl (g := (mkF m 24 #[.val (.ref a1), .val (.ref a2), .val (.double s0), .second, .val (.int ((0 : Int32) + (1 : Int32)))] [(.int ((0 : Int32) + (1 : Int32))), (.ref a2), (.double uc), (.double s0)])) rfl rfl (hb hby d1_24) _ ?_
    show Steps p.tables e below (s₁.setTop (mkF m 25 #[.val (.ref a1), .val (.ref a2), .val (.double s0), .second, .val (.int ((0 : Int32) + (1 : Int32)))] [(.double uy), (.double uc), (.double s0)])) _
    refine XS.dmulS X0.here hx rfl (hb hby d1_25) rfl (by rw [hm6]; exact ym6.noNaN) hm6 ?_
    show Steps p.tables e below (s₁.setTop (mkF m 26 #[.val (.ref a1), .val (.ref a2), .val (.double s0), .second, .val (.int ((0 : Int32) + (1 : Int32)))] [(.double m6), (.double s0)])) _
    refine XS.daddS X0.here hx rfl (hb hby d1_26) rfl (by rw [hs1]; exact ys1.noNaN) hs1 ?_
    show Steps p.tables e below (s₁.setTop (mkF m 27 #[.val (.ref a1), .val (.ref a2), .val (.double s0), .second, .val (.int ((0 : Int32) + (1 : Int32)))] [(.double s1)])) _
    refine XS.dstoreN X0.here hx rfl (hb hby d1_27) rfl (l' := #[.val (.ref a1), .val (.ref a2), .val (.double s1), .second, .val (.int ((0 : Int32) + (1 : Int32)))]) rfl ?_
    show Steps p.tables e below (s₁.setTop (mkF m 28 #[.val (.ref a1), .val (.ref a2), .val (.double s1), .second, .val (.int ((0 : Int32) + (1 : Int32)))] [])) _
    refine XS.iinc X0.here hx rfl (hb hby d1_28) rfl (l' := #[.val (.ref a1), .val (.ref a2), .val (.double s1), .second, .val (.int (((0 : Int32) + (1 : Int32)) + (1 : Int32)))]) rfl ?_
    show Steps p.tables e below (s₁.setTop (mkF m 31 #[.val (.ref a1), .val (.ref a2), .val (.double s1), .second, .val (.int (((0 : Int32) + (1 : Int32)) + (1 : Int32)))] [])) _
    refine XS.goto X0.here hx rfl (pc0 := 31) (pc' := 7) rfl (hb hby d1_31) (by decide) (by decide) ?_
    show Steps p.tables e below (s₁.setTop (mkF m 7 #[.val (.ref a1), .val (.ref a2), .val (.double s1), .second, .val (.int (((0 : Int32) + (1 : Int32)) + (1 : Int32)))] [])) _
    refine XS.iload X0.here hx rfl (hb hby d1_7) rfl ?_
    show Steps p.tables e below (s₁.setTop (mkF m 9 #[.val (.ref a1), .val (.ref a2), .val (.double s1), .second, .val (.int (((0 : Int32) + (1 : Int32)) + (1 : Int32)))] [(.int (((0 : Int32) + (1 : Int32)) + (1 : Int32)))])) _
    refine XS.aloadN X0.here hx rfl (hb hby d1_9) rfl rfl ?_
    show Steps p.tables e below (s₁.setTop (mkF m 10 #[.val (.ref a1), .val (.ref a2), .val (.double s1), .second, .val (.int (((0 : Int32) + (1 : Int32)) + (1 : Int32)))] [(.ref a2), (.int (((0 : Int32) + (1 : Int32)) + (1 : Int32)))])) _
    refine lnG X0 hx hZ e0 G2 (z := (2 : Int32)) (by decide) (g := (mkF m 10 #[.val (.ref a1), .val (.ref a2), .val (.double s1), .second, .val (.int (((0 : Int32) + (1 : Int32)) + (1 : Int32)))] [(.ref a2), (.int (((0 : Int32) + (1 : Int32)) + (1 : Int32)))])) rfl rfl (hb hby d1_10) _ ?_
    show Steps p.tables e below (s₁.setTop (mkF m 11 #[.val (.ref a1), .val (.ref a2), .val (.double s1), .second, .val (.int (((0 : Int32) + (1 : Int32)) + (1 : Int32)))] [(.int (2 : Int32)), (.int (((0 : Int32) + (1 : Int32)) + (1 : Int32)))])) _
    refine XS.icmpYes X0.here hx rfl (pc0 := 11) (pc' := 34) rfl (hb hby d1_11) rfl (flt (by decide)).2.1 (by decide) (by decide) ?_
    show Steps p.tables e below (s₁.setTop (mkF m 34 #[.val (.ref a1), .val (.ref a2), .val (.double s1), .second, .val (.int (((0 : Int32) + (1 : Int32)) + (1 : Int32)))] [])) _
    refine XS.dloadN X0.here hx rfl (hb hby d1_34) rfl ?_
    exact Steps.refl _
  obtain ⟨fs, hr, hrun, hended, hW, hsame⟩ := X0.leave (v := some (.double s1)) (fun h => by rw [Bd.returns] at h; cases h)
  refine ⟨_, _, pre0 _ ?_, hrun, hended, _, _, rfl, ?_, ⟨_, rfl⟩, hW, hsame.mono (by decide) (by decide)⟩
  · rw [← hS0]
    refine r3.trans ?_
    show Steps p.tables e below (s₁.setTop (mkF m 35 #[.val (.ref a1), .val (.ref a2), .val (.double s1), .second, .val (.int (((0 : Int32) + (1 : Int32)) + (1 : Int32)))] [(.double s1)])) _
    exact retD X0 hx Bd.returns (hb hby d1_35) hr
  · exact ⟨_, rfl, ys1, N0, e0⟩
theorem pn_0 : plainName "com/example/polytome/polytome/benchmark/LogLikelihoodScorePinLaw" = true := by first | (simp [plainName, overriddenIn]; done) | decide +kernel
theorem ef_0 (m : MethodId) (x0 : Int32) (x1 : Int32) (x2 : Int32) (x3 : Int32) (x4 : Int32) (x5 : Int32) : entryFrame m #[(.int x0), (.int x1), (.int x2), (.int x3), (.int x4), (.int x5)] maxLocals = mkF m 0 #[.val (.int x0), .val (.int x1), .val (.int x2), .val (.int x3), .val (.int x4), .val (.int x5), .unset, .unset, .unset, .unset, .unset, .unset, .unset, .unset, .unset, .unset, .unset, .unset, .unset, .unset, .unset, .unset, .unset] [] := by first | (simp [entryFrame, mkF, argsToLocals, Value.category, maxLocals]; done) | rfl
def Qm0 (Z : State) (p1 : Int32) (p2 : Int32) (p3 : Int32) (p4 : Int32) (p5 : Int32) (p6 : Int32)  (h0 : Heap) (n0 : Nat) (v : Option Value) (h : Heap) (L : List Loc) : Prop := v = some (.int 1) ∧ Fr n0 L
set_option maxRecDepth 65536 in
set_option maxHeartbeats 40000000 in
theorem rm0 (l : Launch) (Z : State) (a0 : Array Value) (hw : ∀ d ∈ tables_1, d.before a0 Z = true) (ws : List Jvm.Cond) (p1 : Int32) (p2 : Int32) (p3 : Int32) (p4 : Int32) (p5 : Int32) (p6 : Int32)  (h0 : Heap) (n0 : Nat) (Z0 : n0 ≤ h0.size)  :
    MetFree l x (head1 (Jvm.Cond.code x code maxLocals ret :: ws) room_1) (fun a U => a = #[(.int p1), (.int p2), (.int p3), (.int p4), (.int p5), (.int p6)] ∧ Z.Warmed39 U.vm ∧ U.heap = h0) (fun _ _ _ _ _ => True) (fun _ U o U' => ∃ v L, o = .returned v ∧ Qm0 Z p1 p2 p3 p4 p5 p6 h0 n0 v U'.heap L ∧ FrameEnd U o U' L room_1.cells room_1.slots) := by
  refine MetFree.of_bodySF (plainFor_of_name pn_0) hisR ?_
  intro p e s m args below meth c s₁ Bd hml0 hP hK
  obtain ⟨rfl, hZ, hh⟩ := hP
  have hx := Bd.exec
  have hby := Bd.bytes
  have hml : c.maxLocals = 23 := hml0
  have hown : s.vm.findClass "com/example/polytome/polytome/benchmark/LogLikelihoodScorePinLaw" = some m.cls := findClass_of_methodNamed Bd.named
  have hnm := (name_of_methodNamed Bd.named Bd.method).1
  have X0 : Stand p l e room_1 s m #[(.int p1), (.int p2), (.int p3), (.int p4), (.int p5), (.int p6)] below meth c s₁ [] 0 0 := Stand.of_body Bd
  have e0 : s₁.heap = h0 := by rw [← hh, Bd.state]; rfl
  have N0 := Fr.nil n0
  have pre0 : ∀ t, Steps p.tables e below (s₁.setTop (mkF m 0 #[.val (.int p1), .val (.int p2), .val (.int p3), .val (.int p4), .val (.int p5), .val (.int p6), .unset, .unset, .unset, .unset, .unset, .unset, .unset, .unset, .unset, .unset, .unset, .unset, .unset, .unset, .unset, .unset, .unset] [])) t → Steps p.tables e below (s₁.setTop (entryFrame m #[(.int p1), (.int p2), (.int p3), (.int p4), (.int p5), (.int p6)] maxLocals)) t := fun t k => castTop (ef_0 m p1 p2 p3 p4 p5 p6) k
  obtain ⟨S0, hS0⟩ : ∃ z, z = s₁.setTop (mkF m 0 #[.val (.int p1), .val (.int p2), .val (.int p3), .val (.int p4), .val (.int p5), .val (.int p6), .unset, .unset, .unset, .unset, .unset, .unset, .unset, .unset, .unset, .unset, .unset, .unset, .unset, .unset, .unset, .unset, .unset] []) := ⟨_, rfl⟩
  have r0 : Steps p.tables e below S0 (s₁.setTop (mkF m 0 #[.val (.int p1), .val (.int p2), .val (.int p3), .val (.int p4), .val (.int p5), .val (.int p6), .unset, .unset, .unset, .unset, .unset, .unset, .unset, .unset, .unset, .unset, .unset, .unset, .unset, .unset, .unset, .unset, .unset] [])) := by rw [hS0]; exact Steps.refl _
  have r4 : Steps p.tables e below S0 (s₁.setTop (mkF m 45 #[.val (.int p1), .val (.int p2), .val (.int p3), .val (.int p4), .val (.int p5), .val (.int p6), .val (.int ((p1 &&& (2147483647 : Int32)) % (3 : Int32))), .val (.long ((p2 % (1048576 : Int32)).toInt64)), .second, .val (.long ((p3 % (1048576 : Int32)).toInt64)), .second, .val (.long ((p4 % (1048576 : Int32)).toInt64)), .second, .val (.long ((p5 % (1048576 : Int32)).toInt64)), .second, .val (.long ((p6 % (1048576 : Int32)).toInt64)), .second, .unset, .unset, .unset, .unset, .unset, .unset] [])) := by
    refine r0.trans ?_
    show Steps p.tables e below (s₁.setTop (mkF m 0 #[.val (.int p1), .val (.int p2), .val (.int p3), .val (.int p4), .val (.int p5), .val (.int p6), .unset, .unset, .unset, .unset, .unset, .unset, .unset, .unset, .unset, .unset, .unset, .unset, .unset, .unset, .unset, .unset, .unset] [])) _
    refine XS.iloadN X0.here hx rfl (hb hby at_0) rfl ?_
    show Steps p.tables e below (s₁.setTop (mkF m 1 #[.val (.int p1), .val (.int p2), .val (.int p3), .val (.int p4), .val (.int p5), .val (.int p6), .unset, .unset, .unset, .unset, .unset, .unset, .unset, .unset, .unset, .unset, .unset, .unset, .unset, .unset, .unset, .unset, .unset] [(.int p1)])) _
    refine X0.ldcInt hx hown (mvT hZ (hw _ (List.mem_of_getElem? (i := 0) rfl))) (g := (mkF m 1 #[.val (.int p1), .val (.int p2), .val (.int p3), .val (.int p4), .val (.int p5), .val (.int p6), .unset, .unset, .unset, .unset, .unset, .unset, .unset, .unset, .unset, .unset, .unset, .unset, .unset, .unset, .unset, .unset, .unset] [(.int p1)])) rfl (hb hby at_1) _ ?_
    show Steps p.tables e below (s₁.setTop (mkF m 3 #[.val (.int p1), .val (.int p2), .val (.int p3), .val (.int p4), .val (.int p5), .val (.int p6), .unset, .unset, .unset, .unset, .unset, .unset, .unset, .unset, .unset, .unset, .unset, .unset, .unset, .unset, .unset, .unset, .unset] [(.int (2147483647 : Int32)), (.int p1)])) _
    refine XS.iand X0.here hx rfl (hb hby at_3) rfl ?_
    show Steps p.tables e below (s₁.setTop (mkF m 4 #[.val (.int p1), .val (.int p2), .val (.int p3), .val (.int p4), .val (.int p5), .val (.int p6), .unset, .unset, .unset, .unset, .unset, .unset, .unset, .unset, .unset, .unset, .unset, .unset, .unset, .unset, .unset, .unset, .unset] [(.int (p1 &&& (2147483647 : Int32)))])) _
    refine XS.iconst X0.here hx rfl (hb hby at_4) ?_
    show Steps p.tables e below (s₁.setTop (mkF m 5 #[.val (.int p1), .val (.int p2), .val (.int p3), .val (.int p4), .val (.int p5), .val (.int p6), .unset, .unset, .unset, .unset, .unset, .unset, .unset, .unset, .unset, .unset, .unset, .unset, .unset, .unset, .unset, .unset, .unset] [(.int (3 : Int32)), (.int (p1 &&& (2147483647 : Int32)))])) _
    refine iremM X0 hx rfl (hb hby at_5) rfl (by decide) ?_
    show Steps p.tables e below (s₁.setTop (mkF m 6 #[.val (.int p1), .val (.int p2), .val (.int p3), .val (.int p4), .val (.int p5), .val (.int p6), .unset, .unset, .unset, .unset, .unset, .unset, .unset, .unset, .unset, .unset, .unset, .unset, .unset, .unset, .unset, .unset, .unset] [(.int ((p1 &&& (2147483647 : Int32)) % (3 : Int32)))])) _
    refine XS.istore X0.here hx rfl (hb hby at_6) rfl (l' := #[.val (.int p1), .val (.int p2), .val (.int p3), .val (.int p4), .val (.int p5), .val (.int p6), .val (.int ((p1 &&& (2147483647 : Int32)) % (3 : Int32))), .unset, .unset, .unset, .unset, .unset, .unset, .unset, .unset, .unset, .unset, .unset, .unset, .unset, .unset, .unset, .unset]) rfl ?_
    show Steps p.tables e below (s₁.setTop (mkF m 8 #[.val (.int p1), .val (.int p2), .val (.int p3), .val (.int p4), .val (.int p5), .val (.int p6), .val (.int ((p1 &&& (2147483647 : Int32)) % (3 : Int32))), .unset, .unset, .unset, .unset, .unset, .unset, .unset, .unset, .unset, .unset, .unset, .unset, .unset, .unset, .unset, .unset] [])) _
    refine XS.iloadN X0.here hx rfl (hb hby at_8) rfl ?_
    show Steps p.tables e below (s₁.setTop (mkF m 9 #[.val (.int p1), .val (.int p2), .val (.int p3), .val (.int p4), .val (.int p5), .val (.int p6), .val (.int ((p1 &&& (2147483647 : Int32)) % (3 : Int32))), .unset, .unset, .unset, .unset, .unset, .unset, .unset, .unset, .unset, .unset, .unset, .unset, .unset, .unset, .unset, .unset] [(.int p2)])) _
    refine X0.ldcInt hx hown (mvT hZ (hw _ (List.mem_of_getElem? (i := 1) rfl))) (g := (mkF m 9 #[.val (.int p1), .val (.int p2), .val (.int p3), .val (.int p4), .val (.int p5), .val (.int p6), .val (.int ((p1 &&& (2147483647 : Int32)) % (3 : Int32))), .unset, .unset, .unset, .unset, .unset, .unset, .unset, .unset, .unset, .unset, .unset, .unset, .unset, .unset, .unset, .unset] [(.int p2)])) rfl (hb hby at_9) _ ?_
    show Steps p.tables e below (s₁.setTop (mkF m 11 #[.val (.int p1), .val (.int p2), .val (.int p3), .val (.int p4), .val (.int p5), .val (.int p6), .val (.int ((p1 &&& (2147483647 : Int32)) % (3 : Int32))), .unset, .unset, .unset, .unset, .unset, .unset, .unset, .unset, .unset, .unset, .unset, .unset, .unset, .unset, .unset, .unset] [(.int (1048576 : Int32)), (.int p2)])) _
    refine iremM X0 hx rfl (hb hby at_11) rfl (by decide) ?_
    show Steps p.tables e below (s₁.setTop (mkF m 12 #[.val (.int p1), .val (.int p2), .val (.int p3), .val (.int p4), .val (.int p5), .val (.int p6), .val (.int ((p1 &&& (2147483647 : Int32)) % (3 : Int32))), .unset, .unset, .unset, .unset, .unset, .unset, .unset, .unset, .unset, .unset, .unset, .unset, .unset, .unset, .unset, .unset] [(.int (p2 % (1048576 : Int32)))])) _
    refine XS.i2l X0.here hx rfl (hb hby at_12) rfl ?_
    show Steps p.tables e below (s₁.setTop (mkF m 13 #[.val (.int p1), .val (.int p2), .val (.int p3), .val (.int p4), .val (.int p5), .val (.int p6), .val (.int ((p1 &&& (2147483647 : Int32)) % (3 : Int32))), .unset, .unset, .unset, .unset, .unset, .unset, .unset, .unset, .unset, .unset, .unset, .unset, .unset, .unset, .unset, .unset] [(.long ((p2 % (1048576 : Int32)).toInt64))])) _
    refine XS.lstore X0.here hx rfl (hb hby at_13) rfl (l' := #[.val (.int p1), .val (.int p2), .val (.int p3), .val (.int p4), .val (.int p5), .val (.int p6), .val (.int ((p1 &&& (2147483647 : Int32)) % (3 : Int32))), .val (.long ((p2 % (1048576 : Int32)).toInt64)), .second, .unset, .unset, .unset, .unset, .unset, .unset, .unset, .unset, .unset, .unset, .unset, .unset, .unset, .unset]) rfl ?_
    show Steps p.tables e below (s₁.setTop (mkF m 15 #[.val (.int p1), .val (.int p2), .val (.int p3), .val (.int p4), .val (.int p5), .val (.int p6), .val (.int ((p1 &&& (2147483647 : Int32)) % (3 : Int32))), .val (.long ((p2 % (1048576 : Int32)).toInt64)), .second, .unset, .unset, .unset, .unset, .unset, .unset, .unset, .unset, .unset, .unset, .unset, .unset, .unset, .unset] [])) _
    refine XS.iloadN X0.here hx rfl (hb hby at_15) rfl ?_
    show Steps p.tables e below (s₁.setTop (mkF m 16 #[.val (.int p1), .val (.int p2), .val (.int p3), .val (.int p4), .val (.int p5), .val (.int p6), .val (.int ((p1 &&& (2147483647 : Int32)) % (3 : Int32))), .val (.long ((p2 % (1048576 : Int32)).toInt64)), .second, .unset, .unset, .unset, .unset, .unset, .unset, .unset, .unset, .unset, .unset, .unset, .unset, .unset, .unset] [(.int p3)])) _
    refine X0.ldcInt hx hown (mvT hZ (hw _ (List.mem_of_getElem? (i := 1) rfl))) (g := (mkF m 16 #[.val (.int p1), .val (.int p2), .val (.int p3), .val (.int p4), .val (.int p5), .val (.int p6), .val (.int ((p1 &&& (2147483647 : Int32)) % (3 : Int32))), .val (.long ((p2 % (1048576 : Int32)).toInt64)), .second, .unset, .unset, .unset, .unset, .unset, .unset, .unset, .unset, .unset, .unset, .unset, .unset, .unset, .unset] [(.int p3)])) rfl (hb hby at_16) _ ?_
    show Steps p.tables e below (s₁.setTop (mkF m 18 #[.val (.int p1), .val (.int p2), .val (.int p3), .val (.int p4), .val (.int p5), .val (.int p6), .val (.int ((p1 &&& (2147483647 : Int32)) % (3 : Int32))), .val (.long ((p2 % (1048576 : Int32)).toInt64)), .second, .unset, .unset, .unset, .unset, .unset, .unset, .unset, .unset, .unset, .unset, .unset, .unset, .unset, .unset] [(.int (1048576 : Int32)), (.int p3)])) _
    refine iremM X0 hx rfl (hb hby at_18) rfl (by decide) ?_
    show Steps p.tables e below (s₁.setTop (mkF m 19 #[.val (.int p1), .val (.int p2), .val (.int p3), .val (.int p4), .val (.int p5), .val (.int p6), .val (.int ((p1 &&& (2147483647 : Int32)) % (3 : Int32))), .val (.long ((p2 % (1048576 : Int32)).toInt64)), .second, .unset, .unset, .unset, .unset, .unset, .unset, .unset, .unset, .unset, .unset, .unset, .unset, .unset, .unset] [(.int (p3 % (1048576 : Int32)))])) _
    refine XS.i2l X0.here hx rfl (hb hby at_19) rfl ?_
    show Steps p.tables e below (s₁.setTop (mkF m 20 #[.val (.int p1), .val (.int p2), .val (.int p3), .val (.int p4), .val (.int p5), .val (.int p6), .val (.int ((p1 &&& (2147483647 : Int32)) % (3 : Int32))), .val (.long ((p2 % (1048576 : Int32)).toInt64)), .second, .unset, .unset, .unset, .unset, .unset, .unset, .unset, .unset, .unset, .unset, .unset, .unset, .unset, .unset] [(.long ((p3 % (1048576 : Int32)).toInt64))])) _
    refine XS.lstore X0.here hx rfl (hb hby at_20) rfl (l' := #[.val (.int p1), .val (.int p2), .val (.int p3), .val (.int p4), .val (.int p5), .val (.int p6), .val (.int ((p1 &&& (2147483647 : Int32)) % (3 : Int32))), .val (.long ((p2 % (1048576 : Int32)).toInt64)), .second, .val (.long ((p3 % (1048576 : Int32)).toInt64)), .second, .unset, .unset, .unset, .unset, .unset, .unset, .unset, .unset, .unset, .unset, .unset, .unset]) rfl ?_
    show Steps p.tables e below (s₁.setTop (mkF m 22 #[.val (.int p1), .val (.int p2), .val (.int p3), .val (.int p4), .val (.int p5), .val (.int p6), .val (.int ((p1 &&& (2147483647 : Int32)) % (3 : Int32))), .val (.long ((p2 % (1048576 : Int32)).toInt64)), .second, .val (.long ((p3 % (1048576 : Int32)).toInt64)), .second, .unset, .unset, .unset, .unset, .unset, .unset, .unset, .unset, .unset, .unset, .unset, .unset] [])) _
    refine XS.iloadN X0.here hx rfl (hb hby at_22) rfl ?_
    show Steps p.tables e below (s₁.setTop (mkF m 23 #[.val (.int p1), .val (.int p2), .val (.int p3), .val (.int p4), .val (.int p5), .val (.int p6), .val (.int ((p1 &&& (2147483647 : Int32)) % (3 : Int32))), .val (.long ((p2 % (1048576 : Int32)).toInt64)), .second, .val (.long ((p3 % (1048576 : Int32)).toInt64)), .second, .unset, .unset, .unset, .unset, .unset, .unset, .unset, .unset, .unset, .unset, .unset, .unset] [(.int p4)])) _
    refine X0.ldcInt hx hown (mvT hZ (hw _ (List.mem_of_getElem? (i := 1) rfl))) (g := (mkF m 23 #[.val (.int p1), .val (.int p2), .val (.int p3), .val (.int p4), .val (.int p5), .val (.int p6), .val (.int ((p1 &&& (2147483647 : Int32)) % (3 : Int32))), .val (.long ((p2 % (1048576 : Int32)).toInt64)), .second, .val (.long ((p3 % (1048576 : Int32)).toInt64)), .second, .unset, .unset, .unset, .unset, .unset, .unset, .unset, .unset, .unset, .unset, .unset, .unset] [(.int p4)])) rfl (hb hby at_23) _ ?_
    show Steps p.tables e below (s₁.setTop (mkF m 25 #[.val (.int p1), .val (.int p2), .val (.int p3), .val (.int p4), .val (.int p5), .val (.int p6), .val (.int ((p1 &&& (2147483647 : Int32)) % (3 : Int32))), .val (.long ((p2 % (1048576 : Int32)).toInt64)), .second, .val (.long ((p3 % (1048576 : Int32)).toInt64)), .second, .unset, .unset, .unset, .unset, .unset, .unset, .unset, .unset, .unset, .unset, .unset, .unset] [(.int (1048576 : Int32)), (.int p4)])) _
    refine iremM X0 hx rfl (hb hby at_25) rfl (by decide) ?_
    show Steps p.tables e below (s₁.setTop (mkF m 26 #[.val (.int p1), .val (.int p2), .val (.int p3), .val (.int p4), .val (.int p5), .val (.int p6), .val (.int ((p1 &&& (2147483647 : Int32)) % (3 : Int32))), .val (.long ((p2 % (1048576 : Int32)).toInt64)), .second, .val (.long ((p3 % (1048576 : Int32)).toInt64)), .second, .unset, .unset, .unset, .unset, .unset, .unset, .unset, .unset, .unset, .unset, .unset, .unset] [(.int (p4 % (1048576 : Int32)))])) _
    refine XS.i2l X0.here hx rfl (hb hby at_26) rfl ?_
    show Steps p.tables e below (s₁.setTop (mkF m 27 #[.val (.int p1), .val (.int p2), .val (.int p3), .val (.int p4), .val (.int p5), .val (.int p6), .val (.int ((p1 &&& (2147483647 : Int32)) % (3 : Int32))), .val (.long ((p2 % (1048576 : Int32)).toInt64)), .second, .val (.long ((p3 % (1048576 : Int32)).toInt64)), .second, .unset, .unset, .unset, .unset, .unset, .unset, .unset, .unset, .unset, .unset, .unset, .unset] [(.long ((p4 % (1048576 : Int32)).toInt64))])) _
    refine XS.lstore X0.here hx rfl (hb hby at_27) rfl (l' := #[.val (.int p1), .val (.int p2), .val (.int p3), .val (.int p4), .val (.int p5), .val (.int p6), .val (.int ((p1 &&& (2147483647 : Int32)) % (3 : Int32))), .val (.long ((p2 % (1048576 : Int32)).toInt64)), .second, .val (.long ((p3 % (1048576 : Int32)).toInt64)), .second, .val (.long ((p4 % (1048576 : Int32)).toInt64)), .second, .unset, .unset, .unset, .unset, .unset, .unset, .unset, .unset, .unset, .unset]) rfl ?_
    show Steps p.tables e below (s₁.setTop (mkF m 29 #[.val (.int p1), .val (.int p2), .val (.int p3), .val (.int p4), .val (.int p5), .val (.int p6), .val (.int ((p1 &&& (2147483647 : Int32)) % (3 : Int32))), .val (.long ((p2 % (1048576 : Int32)).toInt64)), .second, .val (.long ((p3 % (1048576 : Int32)).toInt64)), .second, .val (.long ((p4 % (1048576 : Int32)).toInt64)), .second, .unset, .unset, .unset, .unset, .unset, .unset, .unset, .unset, .unset, .unset] [])) _
    refine XS.iload X0.here hx rfl (hb hby at_29) rfl ?_
    show Steps p.tables e below (s₁.setTop (mkF m 31 #[.val (.int p1), .val (.int p2), .val (.int p3), .val (.int p4), .val (.int p5), .val (.int p6), .val (.int ((p1 &&& (2147483647 : Int32)) % (3 : Int32))), .val (.long ((p2 % (1048576 : Int32)).toInt64)), .second, .val (.long ((p3 % (1048576 : Int32)).toInt64)), .second, .val (.long ((p4 % (1048576 : Int32)).toInt64)), .second, .unset, .unset, .unset, .unset, .unset, .unset, .unset, .unset, .unset, .unset] [(.int p5)])) _
    refine X0.ldcInt hx hown (mvT hZ (hw _ (List.mem_of_getElem? (i := 1) rfl))) (g := (mkF m 31 #[.val (.int p1), .val (.int p2), .val (.int p3), .val (.int p4), .val (.int p5), .val (.int p6), .val (.int ((p1 &&& (2147483647 : Int32)) % (3 : Int32))), .val (.long ((p2 % (1048576 : Int32)).toInt64)), .second, .val (.long ((p3 % (1048576 : Int32)).toInt64)), .second, .val (.long ((p4 % (1048576 : Int32)).toInt64)), .second, .unset, .unset, .unset, .unset, .unset, .unset, .unset, .unset, .unset, .unset] [(.int p5)])) rfl (hb hby at_31) _ ?_
    show Steps p.tables e below (s₁.setTop (mkF m 33 #[.val (.int p1), .val (.int p2), .val (.int p3), .val (.int p4), .val (.int p5), .val (.int p6), .val (.int ((p1 &&& (2147483647 : Int32)) % (3 : Int32))), .val (.long ((p2 % (1048576 : Int32)).toInt64)), .second, .val (.long ((p3 % (1048576 : Int32)).toInt64)), .second, .val (.long ((p4 % (1048576 : Int32)).toInt64)), .second, .unset, .unset, .unset, .unset, .unset, .unset, .unset, .unset, .unset, .unset] [(.int (1048576 : Int32)), (.int p5)])) _
    refine iremM X0 hx rfl (hb hby at_33) rfl (by decide) ?_
    show Steps p.tables e below (s₁.setTop (mkF m 34 #[.val (.int p1), .val (.int p2), .val (.int p3), .val (.int p4), .val (.int p5), .val (.int p6), .val (.int ((p1 &&& (2147483647 : Int32)) % (3 : Int32))), .val (.long ((p2 % (1048576 : Int32)).toInt64)), .second, .val (.long ((p3 % (1048576 : Int32)).toInt64)), .second, .val (.long ((p4 % (1048576 : Int32)).toInt64)), .second, .unset, .unset, .unset, .unset, .unset, .unset, .unset, .unset, .unset, .unset] [(.int (p5 % (1048576 : Int32)))])) _
    refine XS.i2l X0.here hx rfl (hb hby at_34) rfl ?_
    show Steps p.tables e below (s₁.setTop (mkF m 35 #[.val (.int p1), .val (.int p2), .val (.int p3), .val (.int p4), .val (.int p5), .val (.int p6), .val (.int ((p1 &&& (2147483647 : Int32)) % (3 : Int32))), .val (.long ((p2 % (1048576 : Int32)).toInt64)), .second, .val (.long ((p3 % (1048576 : Int32)).toInt64)), .second, .val (.long ((p4 % (1048576 : Int32)).toInt64)), .second, .unset, .unset, .unset, .unset, .unset, .unset, .unset, .unset, .unset, .unset] [(.long ((p5 % (1048576 : Int32)).toInt64))])) _
    refine XS.lstore X0.here hx rfl (hb hby at_35) rfl (l' := #[.val (.int p1), .val (.int p2), .val (.int p3), .val (.int p4), .val (.int p5), .val (.int p6), .val (.int ((p1 &&& (2147483647 : Int32)) % (3 : Int32))), .val (.long ((p2 % (1048576 : Int32)).toInt64)), .second, .val (.long ((p3 % (1048576 : Int32)).toInt64)), .second, .val (.long ((p4 % (1048576 : Int32)).toInt64)), .second, .val (.long ((p5 % (1048576 : Int32)).toInt64)), .second, .unset, .unset, .unset, .unset, .unset, .unset, .unset, .unset]) rfl ?_
    show Steps p.tables e below (s₁.setTop (mkF m 37 #[.val (.int p1), .val (.int p2), .val (.int p3), .val (.int p4), .val (.int p5), .val (.int p6), .val (.int ((p1 &&& (2147483647 : Int32)) % (3 : Int32))), .val (.long ((p2 % (1048576 : Int32)).toInt64)), .second, .val (.long ((p3 % (1048576 : Int32)).toInt64)), .second, .val (.long ((p4 % (1048576 : Int32)).toInt64)), .second, .val (.long ((p5 % (1048576 : Int32)).toInt64)), .second, .unset, .unset, .unset, .unset, .unset, .unset, .unset, .unset] [])) _
    refine XS.iload X0.here hx rfl (hb hby at_37) rfl ?_
    show Steps p.tables e below (s₁.setTop (mkF m 39 #[.val (.int p1), .val (.int p2), .val (.int p3), .val (.int p4), .val (.int p5), .val (.int p6), .val (.int ((p1 &&& (2147483647 : Int32)) % (3 : Int32))), .val (.long ((p2 % (1048576 : Int32)).toInt64)), .second, .val (.long ((p3 % (1048576 : Int32)).toInt64)), .second, .val (.long ((p4 % (1048576 : Int32)).toInt64)), .second, .val (.long ((p5 % (1048576 : Int32)).toInt64)), .second, .unset, .unset, .unset, .unset, .unset, .unset, .unset, .unset] [(.int p6)])) _
    refine X0.ldcInt hx hown (mvT hZ (hw _ (List.mem_of_getElem? (i := 1) rfl))) (g := (mkF m 39 #[.val (.int p1), .val (.int p2), .val (.int p3), .val (.int p4), .val (.int p5), .val (.int p6), .val (.int ((p1 &&& (2147483647 : Int32)) % (3 : Int32))), .val (.long ((p2 % (1048576 : Int32)).toInt64)), .second, .val (.long ((p3 % (1048576 : Int32)).toInt64)), .second, .val (.long ((p4 % (1048576 : Int32)).toInt64)), .second, .val (.long ((p5 % (1048576 : Int32)).toInt64)), .second, .unset, .unset, .unset, .unset, .unset, .unset, .unset, .unset] [(.int p6)])) rfl (hb hby at_39) _ ?_
    show Steps p.tables e below (s₁.setTop (mkF m 41 #[.val (.int p1), .val (.int p2), .val (.int p3), .val (.int p4), .val (.int p5), .val (.int p6), .val (.int ((p1 &&& (2147483647 : Int32)) % (3 : Int32))), .val (.long ((p2 % (1048576 : Int32)).toInt64)), .second, .val (.long ((p3 % (1048576 : Int32)).toInt64)), .second, .val (.long ((p4 % (1048576 : Int32)).toInt64)), .second, .val (.long ((p5 % (1048576 : Int32)).toInt64)), .second, .unset, .unset, .unset, .unset, .unset, .unset, .unset, .unset] [(.int (1048576 : Int32)), (.int p6)])) _
    refine iremM X0 hx rfl (hb hby at_41) rfl (by decide) ?_
    show Steps p.tables e below (s₁.setTop (mkF m 42 #[.val (.int p1), .val (.int p2), .val (.int p3), .val (.int p4), .val (.int p5), .val (.int p6), .val (.int ((p1 &&& (2147483647 : Int32)) % (3 : Int32))), .val (.long ((p2 % (1048576 : Int32)).toInt64)), .second, .val (.long ((p3 % (1048576 : Int32)).toInt64)), .second, .val (.long ((p4 % (1048576 : Int32)).toInt64)), .second, .val (.long ((p5 % (1048576 : Int32)).toInt64)), .second, .unset, .unset, .unset, .unset, .unset, .unset, .unset, .unset] [(.int (p6 % (1048576 : Int32)))])) _
    refine XS.i2l X0.here hx rfl (hb hby at_42) rfl ?_
    show Steps p.tables e below (s₁.setTop (mkF m 43 #[.val (.int p1), .val (.int p2), .val (.int p3), .val (.int p4), .val (.int p5), .val (.int p6), .val (.int ((p1 &&& (2147483647 : Int32)) % (3 : Int32))), .val (.long ((p2 % (1048576 : Int32)).toInt64)), .second, .val (.long ((p3 % (1048576 : Int32)).toInt64)), .second, .val (.long ((p4 % (1048576 : Int32)).toInt64)), .second, .val (.long ((p5 % (1048576 : Int32)).toInt64)), .second, .unset, .unset, .unset, .unset, .unset, .unset, .unset, .unset] [(.long ((p6 % (1048576 : Int32)).toInt64))])) _
    refine XS.lstore X0.here hx rfl (hb hby at_43) rfl (l' := #[.val (.int p1), .val (.int p2), .val (.int p3), .val (.int p4), .val (.int p5), .val (.int p6), .val (.int ((p1 &&& (2147483647 : Int32)) % (3 : Int32))), .val (.long ((p2 % (1048576 : Int32)).toInt64)), .second, .val (.long ((p3 % (1048576 : Int32)).toInt64)), .second, .val (.long ((p4 % (1048576 : Int32)).toInt64)), .second, .val (.long ((p5 % (1048576 : Int32)).toInt64)), .second, .val (.long ((p6 % (1048576 : Int32)).toInt64)), .second, .unset, .unset, .unset, .unset, .unset, .unset]) rfl ?_
    exact Steps.refl _
  obtain ⟨sel, hsel⟩ : ∃ z, z = ((p1 &&& (2147483647 : Int32)) % (3 : Int32)) := ⟨_, rfl⟩
  have r5 : Steps p.tables e below S0 (s₁.setTop (mkF m 45 #[.val (.int p1), .val (.int p2), .val (.int p3), .val (.int p4), .val (.int p5), .val (.int p6), .val (.int sel), .val (.long ((p2 % (1048576 : Int32)).toInt64)), .second, .val (.long ((p3 % (1048576 : Int32)).toInt64)), .second, .val (.long ((p4 % (1048576 : Int32)).toInt64)), .second, .val (.long ((p5 % (1048576 : Int32)).toInt64)), .second, .val (.long ((p6 % (1048576 : Int32)).toInt64)), .second, .unset, .unset, .unset, .unset, .unset, .unset] [])) := by rw [hsel]; exact r4
  obtain ⟨la, hla⟩ : ∃ z, z = ((p2 % (1048576 : Int32)).toInt64) := ⟨_, rfl⟩
  have r6 : Steps p.tables e below S0 (s₁.setTop (mkF m 45 #[.val (.int p1), .val (.int p2), .val (.int p3), .val (.int p4), .val (.int p5), .val (.int p6), .val (.int sel), .val (.long la), .second, .val (.long ((p3 % (1048576 : Int32)).toInt64)), .second, .val (.long ((p4 % (1048576 : Int32)).toInt64)), .second, .val (.long ((p5 % (1048576 : Int32)).toInt64)), .second, .val (.long ((p6 % (1048576 : Int32)).toInt64)), .second, .unset, .unset, .unset, .unset, .unset, .unset] [])) := by rw [hla]; exact r5
  obtain ⟨lb, hlb⟩ : ∃ z, z = ((p3 % (1048576 : Int32)).toInt64) := ⟨_, rfl⟩
  have r7 : Steps p.tables e below S0 (s₁.setTop (mkF m 45 #[.val (.int p1), .val (.int p2), .val (.int p3), .val (.int p4), .val (.int p5), .val (.int p6), .val (.int sel), .val (.long la), .second, .val (.long lb), .second, .val (.long ((p4 % (1048576 : Int32)).toInt64)), .second, .val (.long ((p5 % (1048576 : Int32)).toInt64)), .second, .val (.long ((p6 % (1048576 : Int32)).toInt64)), .second, .unset, .unset, .unset, .unset, .unset, .unset] [])) := by rw [hlb]; exact r6
  obtain ⟨lc, hlc⟩ : ∃ z, z = ((p4 % (1048576 : Int32)).toInt64) := ⟨_, rfl⟩
  have r8 : Steps p.tables e below S0 (s₁.setTop (mkF m 45 #[.val (.int p1), .val (.int p2), .val (.int p3), .val (.int p4), .val (.int p5), .val (.int p6), .val (.int sel), .val (.long la), .second, .val (.long lb), .second, .val (.long lc), .second, .val (.long ((p5 % (1048576 : Int32)).toInt64)), .second, .val (.long ((p6 % (1048576 : Int32)).toInt64)), .second, .unset, .unset, .unset, .unset, .unset, .unset] [])) := by rw [hlc]; exact r7
  obtain ⟨lx, hlx⟩ : ∃ z, z = ((p5 % (1048576 : Int32)).toInt64) := ⟨_, rfl⟩
  have r9 : Steps p.tables e below S0 (s₁.setTop (mkF m 45 #[.val (.int p1), .val (.int p2), .val (.int p3), .val (.int p4), .val (.int p5), .val (.int p6), .val (.int sel), .val (.long la), .second, .val (.long lb), .second, .val (.long lc), .second, .val (.long lx), .second, .val (.long ((p6 % (1048576 : Int32)).toInt64)), .second, .unset, .unset, .unset, .unset, .unset, .unset] [])) := by rw [hlx]; exact r8
  obtain ⟨ly, hly⟩ : ∃ z, z = ((p6 % (1048576 : Int32)).toInt64) := ⟨_, rfl⟩
  have r10 : Steps p.tables e below S0 (s₁.setTop (mkF m 45 #[.val (.int p1), .val (.int p2), .val (.int p3), .val (.int p4), .val (.int p5), .val (.int p6), .val (.int sel), .val (.long la), .second, .val (.long lb), .second, .val (.long lc), .second, .val (.long lx), .second, .val (.long ly), .second, .unset, .unset, .unset, .unset, .unset, .unset] [])) := by rw [hly]; exact r9
  have hs := own_sel p1
  rw [← hsel] at hs
  have bla : la.toInt.natAbs ≤ 1048576 := by rw [hla]; exact own_b p2
  have yla : Dy la.toInt 0 (FP.l2d la) := Dy.l2d (by omega)
  have blb : lb.toInt.natAbs ≤ 1048576 := by rw [hlb]; exact own_b p3
  have ylb : Dy lb.toInt 0 (FP.l2d lb) := Dy.l2d (by omega)
  have blc : lc.toInt.natAbs ≤ 1048576 := by rw [hlc]; exact own_b p4
  have ylc : Dy lc.toInt 0 (FP.l2d lc) := Dy.l2d (by omega)
  have blx : lx.toInt.natAbs ≤ 1048576 := by rw [hlx]; exact own_b p5
  have ylx : Dy lx.toInt 0 (FP.l2d lx) := Dy.l2d (by omega)
  have bly : ly.toInt.natAbs ≤ 1048576 := by rw [hly]; exact own_b p6
  have yly : Dy ly.toInt 0 (FP.l2d ly) := Dy.l2d (by omega)
  have m1 := own_prod blb blx
  have m2 := own_prod blc bly
  have r11 : Steps p.tables e below S0 (s₁.setTop (mkF m 46 #[.val (.int p1), .val (.int p2), .val (.int p3), .val (.int p4), .val (.int p5), .val (.int p6), .val (.int sel), .val (.long la), .second, .val (.long lb), .second, .val (.long lc), .second, .val (.long lx), .second, .val (.long ly), .second, .unset, .unset, .unset, .unset, .unset, .unset] [(.int (3 : Int32))])) := by
    refine r10.trans ?_
    show Steps p.tables e below (s₁.setTop (mkF m 45 #[.val (.int p1), .val (.int p2), .val (.int p3), .val (.int p4), .val (.int p5), .val (.int p6), .val (.int sel), .val (.long la), .second, .val (.long lb), .second, .val (.long lc), .second, .val (.long lx), .second, .val (.long ly), .second, .unset, .unset, .unset, .unset, .unset, .unset] [])) _
    refine XS.iconst X0.here hx rfl (hb hby at_45) ?_
    exact Steps.refl _
  obtain ⟨T12, h12, k12, X12, e12, E12, A12, st12⟩ := newP X0 hx hZ (hw _ (List.mem_of_getElem? (i := 2) rfl)) e0 (g := (mkF m 46 #[.val (.int p1), .val (.int p2), .val (.int p3), .val (.int p4), .val (.int p5), .val (.int p6), .val (.int sel), .val (.long la), .second, .val (.long lb), .second, .val (.long lc), .second, .val (.long lx), .second, .val (.long ly), .second, .unset, .unset, .unset, .unset, .unset, .unset] [(.int (3 : Int32))])) rfl (hb hby at_46) rfl (by decide) (cap := 3) (by decide) (by decide) (by decide) (by decide)
  obtain ⟨b1, g12⟩ : ∃ z, z = h0.size := ⟨_, rfl⟩
  rw [← g12] at A12 st12
  have G_b1 : Gar Z h12 b1 .double ((3 : Int32)).toNatClampNeg (fun _ => defaultValue .double) := Gar.new A12
  have g_b1 : n0 ≤ b1 := Nat.le_trans Z0 (Nat.le_of_eq g12.symm)
  have Z12 : n0 ≤ h12.size := Nat.le_trans Z0 E12.1
  have r13 : Steps p.tables e below S0 (T12.setTop (mkF m 48 #[.val (.int p1), .val (.int p2), .val (.int p3), .val (.int p4), .val (.int p5), .val (.int p6), .val (.int sel), .val (.long la), .second, .val (.long lb), .second, .val (.long lc), .second, .val (.long lx), .second, .val (.long ly), .second, .unset, .unset, .unset, .unset, .unset, .unset] [(.ref b1)])) := r11.trans (st12 _ (Steps.refl _))
  have r14 : Steps p.tables e below S0 (T12.setTop (mkF m 53 #[.val (.int p1), .val (.int p2), .val (.int p3), .val (.int p4), .val (.int p5), .val (.int p6), .val (.int sel), .val (.long la), .second, .val (.long lb), .second, .val (.long lc), .second, .val (.long lx), .second, .val (.long ly), .second, .unset, .unset, .unset, .unset, .unset, .unset] [(.double (FP.l2d la)), (.int (0 : Int32)), (.ref b1), (.ref b1)])) := by
    refine r13.trans ?_
    show Steps p.tables e below (T12.setTop (mkF m 48 #[.val (.int p1), .val (.int p2), .val (.int p3), .val (.int p4), .val (.int p5), .val (.int p6), .val (.int sel), .val (.long la), .second, .val (.long lb), .second, .val (.long lc), .second, .val (.long lx), .second, .val (.long ly), .second, .unset, .unset, .unset, .unset, .unset, .unset] [(.ref b1)])) _
    refine XS.dup X12.here hx rfl (hb hby at_48) rfl rfl ?_
    show Steps p.tables e below (T12.setTop (mkF m 49 #[.val (.int p1), .val (.int p2), .val (.int p3), .val (.int p4), .val (.int p5), .val (.int p6), .val (.int sel), .val (.long la), .second, .val (.long lb), .second, .val (.long lc), .second, .val (.long lx), .second, .val (.long ly), .second, .unset, .unset, .unset, .unset, .unset, .unset] [(.ref b1), (.ref b1)])) _
    refine XS.iconst X12.here hx rfl (hb hby at_49) ?_
    show Steps p.tables e below (T12.setTop (mkF m 50 #[.val (.int p1), .val (.int p2), .val (.int p3), .val (.int p4), .val (.int p5), .val (.int p6), .val (.int sel), .val (.long la), .second, .val (.long lb), .second, .val (.long lc), .second, .val (.long lx), .second, .val (.long ly), .second, .unset, .unset, .unset, .unset, .unset, .unset] [(.int (0 : Int32)), (.ref b1), (.ref b1)])) _
    refine XS.lload X12.here hx rfl (hb hby at_50) rfl ?_
    show Steps p.tables e below (T12.setTop (mkF m 52 #[.val (.int p1), .val (.int p2), .val (.int p3), .val (.int p4), .val (.int p5), .val (.int p6), .val (.int sel), .val (.long la), .second, .val (.long lb), .second, .val (.long lc), .second, .val (.long lx), .second, .val (.long ly), .second, .unset, .unset, .unset, .unset, .unset, .unset] [(.long la), (.int (0 : Int32)), (.ref b1), (.ref b1)])) _
    refine XS.l2dS X12.here hx rfl (hb hby at_52) rfl rfl ?_
    exact Steps.refl _
  obtain ⟨T15, h15, X15, e15, W15, st15⟩ := stDG X12 hx hZ e12 G_b1 (j := (0 : Int32)) (by decide) (by decide) (g := (mkF m 53 #[.val (.int p1), .val (.int p2), .val (.int p3), .val (.int p4), .val (.int p5), .val (.int p6), .val (.int sel), .val (.long la), .second, .val (.long lb), .second, .val (.long lc), .second, .val (.long lx), .second, .val (.long ly), .second, .unset, .unset, .unset, .unset, .unset, .unset] [(.double (FP.l2d la)), (.int (0 : Int32)), (.ref b1), (.ref b1)])) rfl rfl (hb hby at_53)
  have N15 := Fr.snoc X15 N0 g_b1
  have G15_b1 := G_b1.set W15
  have Z15 : n0 ≤ h15.size := Nat.le_trans Z12 (Nat.le_of_eq W15.size.symm)
  have r16 : Steps p.tables e below S0 (T15.setTop (mkF m 54 #[.val (.int p1), .val (.int p2), .val (.int p3), .val (.int p4), .val (.int p5), .val (.int p6), .val (.int sel), .val (.long la), .second, .val (.long lb), .second, .val (.long lc), .second, .val (.long lx), .second, .val (.long ly), .second, .unset, .unset, .unset, .unset, .unset, .unset] [(.ref b1)])) := r14.trans (st15 _ (Steps.refl _))
  have r17 : Steps p.tables e below S0 (T15.setTop (mkF m 59 #[.val (.int p1), .val (.int p2), .val (.int p3), .val (.int p4), .val (.int p5), .val (.int p6), .val (.int sel), .val (.long la), .second, .val (.long lb), .second, .val (.long lc), .second, .val (.long lx), .second, .val (.long ly), .second, .unset, .unset, .unset, .unset, .unset, .unset] [(.double (FP.l2d lb)), (.int (1 : Int32)), (.ref b1), (.ref b1)])) := by
    refine r16.trans ?_
    show Steps p.tables e below (T15.setTop (mkF m 54 #[.val (.int p1), .val (.int p2), .val (.int p3), .val (.int p4), .val (.int p5), .val (.int p6), .val (.int sel), .val (.long la), .second, .val (.long lb), .second, .val (.long lc), .second, .val (.long lx), .second, .val (.long ly), .second, .unset, .unset, .unset, .unset, .unset, .unset] [(.ref b1)])) _
    refine XS.dup X15.here hx rfl (hb hby at_54) rfl rfl ?_
    show Steps p.tables e below (T15.setTop (mkF m 55 #[.val (.int p1), .val (.int p2), .val (.int p3), .val (.int p4), .val (.int p5), .val (.int p6), .val (.int sel), .val (.long la), .second, .val (.long lb), .second, .val (.long lc), .second, .val (.long lx), .second, .val (.long ly), .second, .unset, .unset, .unset, .unset, .unset, .unset] [(.ref b1), (.ref b1)])) _
    refine XS.iconst X15.here hx rfl (hb hby at_55) ?_
    show Steps p.tables e below (T15.setTop (mkF m 56 #[.val (.int p1), .val (.int p2), .val (.int p3), .val (.int p4), .val (.int p5), .val (.int p6), .val (.int sel), .val (.long la), .second, .val (.long lb), .second, .val (.long lc), .second, .val (.long lx), .second, .val (.long ly), .second, .unset, .unset, .unset, .unset, .unset, .unset] [(.int (1 : Int32)), (.ref b1), (.ref b1)])) _
    refine XS.lload X15.here hx rfl (hb hby at_56) rfl ?_
    show Steps p.tables e below (T15.setTop (mkF m 58 #[.val (.int p1), .val (.int p2), .val (.int p3), .val (.int p4), .val (.int p5), .val (.int p6), .val (.int sel), .val (.long la), .second, .val (.long lb), .second, .val (.long lc), .second, .val (.long lx), .second, .val (.long ly), .second, .unset, .unset, .unset, .unset, .unset, .unset] [(.long lb), (.int (1 : Int32)), (.ref b1), (.ref b1)])) _
    refine XS.l2dS X15.here hx rfl (hb hby at_58) rfl rfl ?_
    exact Steps.refl _
  obtain ⟨T18, h18, X18, e18, W18, st18⟩ := stDG X15 hx hZ e15 G15_b1 (j := (1 : Int32)) (by decide) (by decide) (g := (mkF m 59 #[.val (.int p1), .val (.int p2), .val (.int p3), .val (.int p4), .val (.int p5), .val (.int p6), .val (.int sel), .val (.long la), .second, .val (.long lb), .second, .val (.long lc), .second, .val (.long lx), .second, .val (.long ly), .second, .unset, .unset, .unset, .unset, .unset, .unset] [(.double (FP.l2d lb)), (.int (1 : Int32)), (.ref b1), (.ref b1)])) rfl rfl (hb hby at_59)
  have N18 := Fr.snoc X18 N15 g_b1
  have G18_b1 := G15_b1.set W18
  have Z18 : n0 ≤ h18.size := Nat.le_trans Z15 (Nat.le_of_eq W18.size.symm)
  have r19 : Steps p.tables e below S0 (T18.setTop (mkF m 60 #[.val (.int p1), .val (.int p2), .val (.int p3), .val (.int p4), .val (.int p5), .val (.int p6), .val (.int sel), .val (.long la), .second, .val (.long lb), .second, .val (.long lc), .second, .val (.long lx), .second, .val (.long ly), .second, .unset, .unset, .unset, .unset, .unset, .unset] [(.ref b1)])) := r17.trans (st18 _ (Steps.refl _))
  have r20 : Steps p.tables e below S0 (T18.setTop (mkF m 65 #[.val (.int p1), .val (.int p2), .val (.int p3), .val (.int p4), .val (.int p5), .val (.int p6), .val (.int sel), .val (.long la), .second, .val (.long lb), .second, .val (.long lc), .second, .val (.long lx), .second, .val (.long ly), .second, .unset, .unset, .unset, .unset, .unset, .unset] [(.double (FP.l2d lc)), (.int (2 : Int32)), (.ref b1), (.ref b1)])) := by
    refine r19.trans ?_
    show Steps p.tables e below (T18.setTop (mkF m 60 #[.val (.int p1), .val (.int p2), .val (.int p3), .val (.int p4), .val (.int p5), .val (.int p6), .val (.int sel), .val (.long la), .second, .val (.long lb), .second, .val (.long lc), .second, .val (.long lx), .second, .val (.long ly), .second, .unset, .unset, .unset, .unset, .unset, .unset] [(.ref b1)])) _
    refine XS.dup X18.here hx rfl (hb hby at_60) rfl rfl ?_
    show Steps p.tables e below (T18.setTop (mkF m 61 #[.val (.int p1), .val (.int p2), .val (.int p3), .val (.int p4), .val (.int p5), .val (.int p6), .val (.int sel), .val (.long la), .second, .val (.long lb), .second, .val (.long lc), .second, .val (.long lx), .second, .val (.long ly), .second, .unset, .unset, .unset, .unset, .unset, .unset] [(.ref b1), (.ref b1)])) _
    refine XS.iconst X18.here hx rfl (hb hby at_61) ?_
    show Steps p.tables e below (T18.setTop (mkF m 62 #[.val (.int p1), .val (.int p2), .val (.int p3), .val (.int p4), .val (.int p5), .val (.int p6), .val (.int sel), .val (.long la), .second, .val (.long lb), .second, .val (.long lc), .second, .val (.long lx), .second, .val (.long ly), .second, .unset, .unset, .unset, .unset, .unset, .unset] [(.int (2 : Int32)), (.ref b1), (.ref b1)])) _
    refine XS.lload X18.here hx rfl (hb hby at_62) rfl ?_
    show Steps p.tables e below (T18.setTop (mkF m 64 #[.val (.int p1), .val (.int p2), .val (.int p3), .val (.int p4), .val (.int p5), .val (.int p6), .val (.int sel), .val (.long la), .second, .val (.long lb), .second, .val (.long lc), .second, .val (.long lx), .second, .val (.long ly), .second, .unset, .unset, .unset, .unset, .unset, .unset] [(.long lc), (.int (2 : Int32)), (.ref b1), (.ref b1)])) _
    refine XS.l2dS X18.here hx rfl (hb hby at_64) rfl rfl ?_
    exact Steps.refl _
  obtain ⟨T21, h21, X21, e21, W21, st21⟩ := stDG X18 hx hZ e18 G18_b1 (j := (2 : Int32)) (by decide) (by decide) (g := (mkF m 65 #[.val (.int p1), .val (.int p2), .val (.int p3), .val (.int p4), .val (.int p5), .val (.int p6), .val (.int sel), .val (.long la), .second, .val (.long lb), .second, .val (.long lc), .second, .val (.long lx), .second, .val (.long ly), .second, .unset, .unset, .unset, .unset, .unset, .unset] [(.double (FP.l2d lc)), (.int (2 : Int32)), (.ref b1), (.ref b1)])) rfl rfl (hb hby at_65)
  have N21 := Fr.snoc X21 N18 g_b1
  have G21_b1 := G18_b1.set W21
  have Z21 : n0 ≤ h21.size := Nat.le_trans Z18 (Nat.le_of_eq W21.size.symm)
  have r22 : Steps p.tables e below S0 (T21.setTop (mkF m 66 #[.val (.int p1), .val (.int p2), .val (.int p3), .val (.int p4), .val (.int p5), .val (.int p6), .val (.int sel), .val (.long la), .second, .val (.long lb), .second, .val (.long lc), .second, .val (.long lx), .second, .val (.long ly), .second, .unset, .unset, .unset, .unset, .unset, .unset] [(.ref b1)])) := r20.trans (st21 _ (Steps.refl _))
  have GA : Gar Z h21 b1 .double 3 (fun i => .double (own_f3 (FP.l2d la) (FP.l2d lb) (FP.l2d lc) i)) := (G21_b1.len (by decide)).congr (fun i hi => by
      have hi2 : i = 0 ∨ i = 1 ∨ i = 2 := by omega
      rcases hi2 with rfl | rfl | rfl <;> rfl)
  have r23 : Steps p.tables e below S0 (T21.setTop (mkF m 70 #[.val (.int p1), .val (.int p2), .val (.int p3), .val (.int p4), .val (.int p5), .val (.int p6), .val (.int sel), .val (.long la), .second, .val (.long lb), .second, .val (.long lc), .second, .val (.long lx), .second, .val (.long ly), .second, .val (.ref b1), .unset, .unset, .unset, .unset, .unset] [(.int sel)])) := by
    refine r22.trans ?_
    show Steps p.tables e below (T21.setTop (mkF m 66 #[.val (.int p1), .val (.int p2), .val (.int p3), .val (.int p4), .val (.int p5), .val (.int p6), .val (.int sel), .val (.long la), .second, .val (.long lb), .second, .val (.long lc), .second, .val (.long lx), .second, .val (.long ly), .second, .unset, .unset, .unset, .unset, .unset, .unset] [(.ref b1)])) _
    refine XS.astore X21.here hx rfl (hb hby at_66) rfl rfl (l' := #[.val (.int p1), .val (.int p2), .val (.int p3), .val (.int p4), .val (.int p5), .val (.int p6), .val (.int sel), .val (.long la), .second, .val (.long lb), .second, .val (.long lc), .second, .val (.long lx), .second, .val (.long ly), .second, .val (.ref b1), .unset, .unset, .unset, .unset, .unset]) rfl ?_
    show Steps p.tables e below (T21.setTop (mkF m 68 #[.val (.int p1), .val (.int p2), .val (.int p3), .val (.int p4), .val (.int p5), .val (.int p6), .val (.int sel), .val (.long la), .second, .val (.long lb), .second, .val (.long lc), .second, .val (.long lx), .second, .val (.long ly), .second, .val (.ref b1), .unset, .unset, .unset, .unset, .unset] [])) _
    refine XS.iload X21.here hx rfl (hb hby at_68) rfl ?_
    exact Steps.refl _
  rcases hs with hs | hs | hs
  · skip
    have r24 : Steps p.tables e below S0 (T21.setTop (mkF m 74 #[.val (.int p1), .val (.int p2), .val (.int p3), .val (.int p4), .val (.int p5), .val (.int p6), .val (.int sel), .val (.long la), .second, .val (.long lb), .second, .val (.long lc), .second, .val (.long lx), .second, .val (.long ly), .second, .val (.ref b1), .unset, .unset, .unset, .unset, .unset] [(.int (0 : Int32))])) := by
      refine r23.trans ?_
      show Steps p.tables e below (T21.setTop (mkF m 70 #[.val (.int p1), .val (.int p2), .val (.int p3), .val (.int p4), .val (.int p5), .val (.int p6), .val (.int sel), .val (.long la), .second, .val (.long lb), .second, .val (.long lc), .second, .val (.long lx), .second, .val (.long ly), .second, .val (.ref b1), .unset, .unset, .unset, .unset, .unset] [(.int sel)])) _
      refine XS.ifNo X21.here hx rfl (hb hby at_70) rfl ((if0 _ _).trans (teq (by rw [hs] <;> decide)).2) ?_
      show Steps p.tables e below (T21.setTop (mkF m 73 #[.val (.int p1), .val (.int p2), .val (.int p3), .val (.int p4), .val (.int p5), .val (.int p6), .val (.int sel), .val (.long la), .second, .val (.long lb), .second, .val (.long lc), .second, .val (.long lx), .second, .val (.long ly), .second, .val (.ref b1), .unset, .unset, .unset, .unset, .unset] [])) _
      refine XS.iconst X21.here hx rfl (hb hby at_73) ?_
      exact Steps.refl _
    obtain ⟨T25, h25, k25, X25, e25, E25, A25, st25⟩ := newP X21 hx hZ (hw _ (List.mem_of_getElem? (i := 2) rfl)) e21 (g := (mkF m 74 #[.val (.int p1), .val (.int p2), .val (.int p3), .val (.int p4), .val (.int p5), .val (.int p6), .val (.int sel), .val (.long la), .second, .val (.long lb), .second, .val (.long lc), .second, .val (.long lx), .second, .val (.long ly), .second, .val (.ref b1), .unset, .unset, .unset, .unset, .unset] [(.int (0 : Int32))])) rfl (hb hby at_74) rfl (by decide) (cap := 0) (by decide) (by decide) (by decide) (by decide)
    obtain ⟨b2, g25⟩ : ∃ z, z = h21.size := ⟨_, rfl⟩
    rw [← g25] at A25 st25
    have ne_b1_b2 : b1 ≠ b2 := Nat.ne_of_lt (by rw [g25]; exact GA.lt)
    have G_b2 : Gar Z h25 b2 .double ((0 : Int32)).toNatClampNeg (fun _ => defaultValue .double) := Gar.new A25
    have g_b2 : n0 ≤ b2 := Nat.le_trans Z21 (Nat.le_of_eq g25.symm)
    have G25_b1 := GA.ext E25
    have Z25 : n0 ≤ h25.size := Nat.le_trans Z21 E25.1
    have r26 : Steps p.tables e below S0 (T25.setTop (mkF m 76 #[.val (.int p1), .val (.int p2), .val (.int p3), .val (.int p4), .val (.int p5), .val (.int p6), .val (.int sel), .val (.long la), .second, .val (.long lb), .second, .val (.long lc), .second, .val (.long lx), .second, .val (.long ly), .second, .val (.ref b1), .unset, .unset, .unset, .unset, .unset] [(.ref b2)])) := r24.trans (st25 _ (Steps.refl _))
    have GB : Gar Z h25 b2 .double 0 (fun i => .double (own_f2 (FP.l2d lx) (FP.l2d ly) i)) := (G_b2.len (by decide)).congr (fun i hi => by
        omega)
    have hex : (la).toInt = la.toInt := rfl
    have r27 : Steps p.tables e below S0 (T25.setTop (mkF m 158 #[.val (.int p1), .val (.int p2), .val (.int p3), .val (.int p4), .val (.int p5), .val (.int p6), .val (.int sel), .val (.long la), .second, .val (.long lb), .second, .val (.long lc), .second, .val (.long lx), .second, .val (.long ly), .second, .val (.ref b1), .val (.ref b2), .val (.long la), .second, .unset, .unset] [(.ref b2), (.ref b1)])) := by
      refine r26.trans ?_
      show Steps p.tables e below (T25.setTop (mkF m 76 #[.val (.int p1), .val (.int p2), .val (.int p3), .val (.int p4), .val (.int p5), .val (.int p6), .val (.int sel), .val (.long la), .second, .val (.long lb), .second, .val (.long lc), .second, .val (.long lx), .second, .val (.long ly), .second, .val (.ref b1), .unset, .unset, .unset, .unset, .unset] [(.ref b2)])) _
      refine XS.astore X25.here hx rfl (hb hby at_76) rfl rfl (l' := #[.val (.int p1), .val (.int p2), .val (.int p3), .val (.int p4), .val (.int p5), .val (.int p6), .val (.int sel), .val (.long la), .second, .val (.long lb), .second, .val (.long lc), .second, .val (.long lx), .second, .val (.long ly), .second, .val (.ref b1), .val (.ref b2), .unset, .unset, .unset, .unset]) rfl ?_
      show Steps p.tables e below (T25.setTop (mkF m 78 #[.val (.int p1), .val (.int p2), .val (.int p3), .val (.int p4), .val (.int p5), .val (.int p6), .val (.int sel), .val (.long la), .second, .val (.long lb), .second, .val (.long lc), .second, .val (.long lx), .second, .val (.long ly), .second, .val (.ref b1), .val (.ref b2), .unset, .unset, .unset, .unset] [])) _
      refine XS.goto X25.here hx rfl (pc0 := 78) (pc' := 118) rfl (hb hby at_78) (by decide) (by decide) ?_
      show Steps p.tables e below (T25.setTop (mkF m 118 #[.val (.int p1), .val (.int p2), .val (.int p3), .val (.int p4), .val (.int p5), .val (.int p6), .val (.int sel), .val (.long la), .second, .val (.long lb), .second, .val (.long lc), .second, .val (.long lx), .second, .val (.long ly), .second, .val (.ref b1), .val (.ref b2), .unset, .unset, .unset, .unset] [])) _
      refine XS.lload X25.here hx rfl (hb hby at_118) rfl ?_
      show Steps p.tables e below (T25.setTop (mkF m 120 #[.val (.int p1), .val (.int p2), .val (.int p3), .val (.int p4), .val (.int p5), .val (.int p6), .val (.int sel), .val (.long la), .second, .val (.long lb), .second, .val (.long lc), .second, .val (.long lx), .second, .val (.long ly), .second, .val (.ref b1), .val (.ref b2), .unset, .unset, .unset, .unset] [(.long la)])) _
      refine XS.lstore X25.here hx rfl (hb hby at_120) rfl (l' := #[.val (.int p1), .val (.int p2), .val (.int p3), .val (.int p4), .val (.int p5), .val (.int p6), .val (.int sel), .val (.long la), .second, .val (.long lb), .second, .val (.long lc), .second, .val (.long lx), .second, .val (.long ly), .second, .val (.ref b1), .val (.ref b2), .val (.long la), .second, .unset, .unset]) rfl ?_
      show Steps p.tables e below (T25.setTop (mkF m 122 #[.val (.int p1), .val (.int p2), .val (.int p3), .val (.int p4), .val (.int p5), .val (.int p6), .val (.int sel), .val (.long la), .second, .val (.long lb), .second, .val (.long lc), .second, .val (.long lx), .second, .val (.long ly), .second, .val (.ref b1), .val (.ref b2), .val (.long la), .second, .unset, .unset] [])) _
      refine XS.iload X25.here hx rfl (hb hby at_122) rfl ?_
      show Steps p.tables e below (T25.setTop (mkF m 124 #[.val (.int p1), .val (.int p2), .val (.int p3), .val (.int p4), .val (.int p5), .val (.int p6), .val (.int sel), .val (.long la), .second, .val (.long lb), .second, .val (.long lc), .second, .val (.long lx), .second, .val (.long ly), .second, .val (.ref b1), .val (.ref b2), .val (.long la), .second, .unset, .unset] [(.int sel)])) _
      refine XS.iconst X25.here hx rfl (hb hby at_124) ?_
      show Steps p.tables e below (T25.setTop (mkF m 125 #[.val (.int p1), .val (.int p2), .val (.int p3), .val (.int p4), .val (.int p5), .val (.int p6), .val (.int sel), .val (.long la), .second, .val (.long lb), .second, .val (.long lc), .second, .val (.long lx), .second, .val (.long ly), .second, .val (.ref b1), .val (.ref b2), .val (.long la), .second, .unset, .unset] [(.int (1 : Int32)), (.int sel)])) _
      refine XS.icmpYes X25.here hx rfl (pc0 := 125) (pc' := 138) rfl (hb hby at_125) rfl (tlt (by rw [hs] <;> decide)).1 (by decide) (by decide) ?_
      show Steps p.tables e below (T25.setTop (mkF m 138 #[.val (.int p1), .val (.int p2), .val (.int p3), .val (.int p4), .val (.int p5), .val (.int p6), .val (.int sel), .val (.long la), .second, .val (.long lb), .second, .val (.long lc), .second, .val (.long lx), .second, .val (.long ly), .second, .val (.ref b1), .val (.ref b2), .val (.long la), .second, .unset, .unset] [])) _
      refine XS.iload X25.here hx rfl (hb hby at_138) rfl ?_
      show Steps p.tables e below (T25.setTop (mkF m 140 #[.val (.int p1), .val (.int p2), .val (.int p3), .val (.int p4), .val (.int p5), .val (.int p6), .val (.int sel), .val (.long la), .second, .val (.long lb), .second, .val (.long lc), .second, .val (.long lx), .second, .val (.long ly), .second, .val (.ref b1), .val (.ref b2), .val (.long la), .second, .unset, .unset] [(.int sel)])) _
      refine XS.iconst X25.here hx rfl (hb hby at_140) ?_
      show Steps p.tables e below (T25.setTop (mkF m 141 #[.val (.int p1), .val (.int p2), .val (.int p3), .val (.int p4), .val (.int p5), .val (.int p6), .val (.int sel), .val (.long la), .second, .val (.long lb), .second, .val (.long lc), .second, .val (.long lx), .second, .val (.long ly), .second, .val (.ref b1), .val (.ref b2), .val (.long la), .second, .unset, .unset] [(.int (2 : Int32)), (.int sel)])) _
      refine XS.icmpYes X25.here hx rfl (pc0 := 141) (pc' := 154) rfl (hb hby at_141) rfl (tlt (by rw [hs] <;> decide)).1 (by decide) (by decide) ?_
      show Steps p.tables e below (T25.setTop (mkF m 154 #[.val (.int p1), .val (.int p2), .val (.int p3), .val (.int p4), .val (.int p5), .val (.int p6), .val (.int sel), .val (.long la), .second, .val (.long lb), .second, .val (.long lc), .second, .val (.long lx), .second, .val (.long ly), .second, .val (.ref b1), .val (.ref b2), .val (.long la), .second, .unset, .unset] [])) _
      refine XS.aload X25.here hx rfl (hb hby at_154) rfl rfl ?_
      show Steps p.tables e below (T25.setTop (mkF m 156 #[.val (.int p1), .val (.int p2), .val (.int p3), .val (.int p4), .val (.int p5), .val (.int p6), .val (.int sel), .val (.long la), .second, .val (.long lb), .second, .val (.long lc), .second, .val (.long lx), .second, .val (.long ly), .second, .val (.ref b1), .val (.ref b2), .val (.long la), .second, .unset, .unset] [(.ref b1)])) _
      refine XS.aload X25.here hx rfl (hb hby at_156) rfl rfl ?_
      exact Steps.refl _
    obtain ⟨_, _, ⟨T28, L28, k28, n28⟩, -, X28, ⟨Lc28, hQ28, l28, y28, z28⟩, st28⟩ := Jvm.LawKit.callS X25 hx (y := (⟨"com/example/polytome/polytome/benchmark/LogLikelihood", "score", "([D[D)D"⟩ : MethodName)) hown (mvT hZ (hw _ (List.mem_of_getElem? (i := 3) rfl))) (mvT hZ (hw _ (List.mem_of_getElem? (i := 4) rfl))) (mvT hZ (hw _ (List.mem_of_getElem? (i := 5) rfl))) (mvT hZ (hw _ (List.mem_of_getElem? (i := 6) rfl))) (by decide) (backOf (W := 0) (rm1_0 l Z a0 hw [] b1 b2 (FP.l2d la) (FP.l2d lb) (FP.l2d lc) (FP.l2d lx) (FP.l2d ly) la.toInt lb.toInt lc.toInt lx.toInt ly.toInt h25 n0 Z25 G25_b1 GB yla ylb ylc ylx yly bla blb blc blx bly) hZ (hw _ (List.mem_of_getElem? (i := 6) rfl)) (hw _ (List.mem_of_getElem? (i := 5) rfl)) (by decide) (by decide)) (g := (mkF m 158 #[.val (.int p1), .val (.int p2), .val (.int p3), .val (.int p4), .val (.int p5), .val (.int p6), .val (.int sel), .val (.long la), .second, .val (.long lb), .second, .val (.long lc), .second, .val (.long lx), .second, .val (.long ly), .second, .val (.ref b1), .val (.ref b2), .val (.long la), .second, .unset, .unset] [(.ref b2), (.ref b1)])) rfl (by rw [hml]; rfl) (argsL := [(.ref b1), (.ref b2)]) (rest := []) (lenOf pd_0 rfl) rfl (by show 2 * 0 + _ ≤ _; exact Nat.le_of_eq rfl) (hb hby at_158) (fun _ _ => ⟨rfl, e25, (by decide : ((0 + 1) + 1) + 0 ≤ _), (by decide : ((0 + 3) + 0) + 0 ≤ _)⟩)
    dsimp only [Pt.U, Pt.locs, Pt.cells, Pt.slots] at X28 l28 y28 z28 st28 hQ28
    subst l28 y28 z28
    obtain ⟨w9, rfl, yw, Nq28, e28⟩ := hQ28
    have N28 := Fr.app N21 Nq28
    have r29 : Steps p.tables e below S0 (T28.setTop (mkF m 161 #[.val (.int p1), .val (.int p2), .val (.int p3), .val (.int p4), .val (.int p5), .val (.int p6), .val (.int sel), .val (.long la), .second, .val (.long lb), .second, .val (.long lc), .second, .val (.long lx), .second, .val (.long ly), .second, .val (.ref b1), .val (.ref b2), .val (.long la), .second, .unset, .unset] [(.double w9)])) := r27.trans (st28 _ (Steps.refl _))
    have r30 : Steps p.tables e below S0 (T28.setTop (mkF m 177 #[.val (.int p1), .val (.int p2), .val (.int p3), .val (.int p4), .val (.int p5), .val (.int p6), .val (.int sel), .val (.long la), .second, .val (.long lb), .second, .val (.long lc), .second, .val (.long lx), .second, .val (.long ly), .second, .val (.ref b1), .val (.ref b2), .val (.long la), .second, .val (.double w9), .second] [(.int (1 : Int32))])) := by
      refine r29.trans ?_
      show Steps p.tables e below (T28.setTop (mkF m 161 #[.val (.int p1), .val (.int p2), .val (.int p3), .val (.int p4), .val (.int p5), .val (.int p6), .val (.int sel), .val (.long la), .second, .val (.long lb), .second, .val (.long lc), .second, .val (.long lx), .second, .val (.long ly), .second, .val (.ref b1), .val (.ref b2), .val (.long la), .second, .unset, .unset] [(.double w9)])) _
      refine XS.dstore X28.here hx rfl (hb hby at_161) rfl (l' := #[.val (.int p1), .val (.int p2), .val (.int p3), .val (.int p4), .val (.int p5), .val (.int p6), .val (.int sel), .val (.long la), .second, .val (.long lb), .second, .val (.long lc), .second, .val (.long lx), .second, .val (.long ly), .second, .val (.ref b1), .val (.ref b2), .val (.long la), .second, .val (.double w9), .second]) rfl ?_
      show Steps p.tables e below (T28.setTop (mkF m 163 #[.val (.int p1), .val (.int p2), .val (.int p3), .val (.int p4), .val (.int p5), .val (.int p6), .val (.int sel), .val (.long la), .second, .val (.long lb), .second, .val (.long lc), .second, .val (.long lx), .second, .val (.long ly), .second, .val (.ref b1), .val (.ref b2), .val (.long la), .second, .val (.double w9), .second] [])) _
      refine XS.dload X28.here hx rfl (hb hby at_163) rfl ?_
      show Steps p.tables e below (T28.setTop (mkF m 165 #[.val (.int p1), .val (.int p2), .val (.int p3), .val (.int p4), .val (.int p5), .val (.int p6), .val (.int sel), .val (.long la), .second, .val (.long lb), .second, .val (.long lc), .second, .val (.long lx), .second, .val (.long ly), .second, .val (.ref b1), .val (.ref b2), .val (.long la), .second, .val (.double w9), .second] [(.double w9)])) _
      refine XS.lload X28.here hx rfl (hb hby at_165) rfl ?_
      show Steps p.tables e below (T28.setTop (mkF m 167 #[.val (.int p1), .val (.int p2), .val (.int p3), .val (.int p4), .val (.int p5), .val (.int p6), .val (.int sel), .val (.long la), .second, .val (.long lb), .second, .val (.long lc), .second, .val (.long lx), .second, .val (.long ly), .second, .val (.ref b1), .val (.ref b2), .val (.long la), .second, .val (.double w9), .second] [(.long la), (.double w9)])) _
      refine XS.l2dS X28.here hx rfl (hb hby at_167) rfl rfl ?_
      show Steps p.tables e below (T28.setTop (mkF m 168 #[.val (.int p1), .val (.int p2), .val (.int p3), .val (.int p4), .val (.int p5), .val (.int p6), .val (.int sel), .val (.long la), .second, .val (.long lb), .second, .val (.long lc), .second, .val (.long lx), .second, .val (.long ly), .second, .val (.ref b1), .val (.ref b2), .val (.long la), .second, .val (.double w9), .second] [(.double (FP.l2d la)), (.double w9)])) _
      refine XS.dcmpS X28.here hx rfl (hb hby at_168) rfl (show cmpValue (FP.dcmp w9 (FP.l2d la)) .l = (0 : Int32) from (by rw [yw.cmpV ((Dy.l2d (by rw [hex]; omega)).cast hex rfl)]; simp)) ?_
      show Steps p.tables e below (T28.setTop (mkF m 169 #[.val (.int p1), .val (.int p2), .val (.int p3), .val (.int p4), .val (.int p5), .val (.int p6), .val (.int sel), .val (.long la), .second, .val (.long lb), .second, .val (.long lc), .second, .val (.long lx), .second, .val (.long ly), .second, .val (.ref b1), .val (.ref b2), .val (.long la), .second, .val (.double w9), .second] [(.int (0 : Int32))])) _
      refine XS.ifNo X28.here hx rfl (hb hby at_169) rfl ((if0 _ _).trans (teq rfl).2) ?_
      show Steps p.tables e below (T28.setTop (mkF m 172 #[.val (.int p1), .val (.int p2), .val (.int p3), .val (.int p4), .val (.int p5), .val (.int p6), .val (.int sel), .val (.long la), .second, .val (.long lb), .second, .val (.long lc), .second, .val (.long lx), .second, .val (.long ly), .second, .val (.ref b1), .val (.ref b2), .val (.long la), .second, .val (.double w9), .second] [])) _
      refine XS.iconst X28.here hx rfl (hb hby at_172) ?_
      show Steps p.tables e below (T28.setTop (mkF m 173 #[.val (.int p1), .val (.int p2), .val (.int p3), .val (.int p4), .val (.int p5), .val (.int p6), .val (.int sel), .val (.long la), .second, .val (.long lb), .second, .val (.long lc), .second, .val (.long lx), .second, .val (.long ly), .second, .val (.ref b1), .val (.ref b2), .val (.long la), .second, .val (.double w9), .second] [(.int (1 : Int32))])) _
      refine XS.goto X28.here hx rfl (pc0 := 173) (pc' := 177) rfl (hb hby at_173) (by decide) (by decide) ?_
      exact Steps.refl _
    obtain ⟨fs, hr, hrun, hended, hW, hsame⟩ := X28.leave (v := some (.int (1 : Int32))) (fun h => by rw [Bd.returns] at h; cases h)
    refine ⟨_, _, pre0 _ ?_, hrun, hended, _, _, rfl, ?_, ⟨_, rfl⟩, hW, hsame.mono (by decide) (by decide)⟩
    · rw [← hS0]
      refine r30.trans ?_
      show Steps p.tables e below (T28.setTop (mkF m 177 #[.val (.int p1), .val (.int p2), .val (.int p3), .val (.int p4), .val (.int p5), .val (.int p6), .val (.int sel), .val (.long la), .second, .val (.long lb), .second, .val (.long lc), .second, .val (.long lx), .second, .val (.long ly), .second, .val (.ref b1), .val (.ref b2), .val (.long la), .second, .val (.double w9), .second] [(.int (1 : Int32))])) _
      exact retB X28 hx Bd.returns (by first | exact Or.inr rfl | exact Or.inl rfl | (split <;> simp)) (hb hby at_177) hr
    · exact ⟨rfl, N28⟩
  · skip
    have r31 : Steps p.tables e below S0 (T21.setTop (mkF m 88 #[.val (.int p1), .val (.int p2), .val (.int p3), .val (.int p4), .val (.int p5), .val (.int p6), .val (.int sel), .val (.long la), .second, .val (.long lb), .second, .val (.long lc), .second, .val (.long lx), .second, .val (.long ly), .second, .val (.ref b1), .unset, .unset, .unset, .unset, .unset] [(.int (1 : Int32))])) := by
      refine r23.trans ?_
      show Steps p.tables e below (T21.setTop (mkF m 70 #[.val (.int p1), .val (.int p2), .val (.int p3), .val (.int p4), .val (.int p5), .val (.int p6), .val (.int sel), .val (.long la), .second, .val (.long lb), .second, .val (.long lc), .second, .val (.long lx), .second, .val (.long ly), .second, .val (.ref b1), .unset, .unset, .unset, .unset, .unset] [(.int sel)])) _
      refine XS.ifYes X21.here hx rfl (pc0 := 70) (pc' := 81) rfl (hb hby at_70) rfl ((if0 _ _).trans (feq (by rw [hs] <;> decide)).2) (by decide) (by decide) ?_
      show Steps p.tables e below (T21.setTop (mkF m 81 #[.val (.int p1), .val (.int p2), .val (.int p3), .val (.int p4), .val (.int p5), .val (.int p6), .val (.int sel), .val (.long la), .second, .val (.long lb), .second, .val (.long lc), .second, .val (.long lx), .second, .val (.long ly), .second, .val (.ref b1), .unset, .unset, .unset, .unset, .unset] [])) _
      refine XS.iload X21.here hx rfl (hb hby at_81) rfl ?_
      show Steps p.tables e below (T21.setTop (mkF m 83 #[.val (.int p1), .val (.int p2), .val (.int p3), .val (.int p4), .val (.int p5), .val (.int p6), .val (.int sel), .val (.long la), .second, .val (.long lb), .second, .val (.long lc), .second, .val (.long lx), .second, .val (.long ly), .second, .val (.ref b1), .unset, .unset, .unset, .unset, .unset] [(.int sel)])) _
      refine XS.iconst X21.here hx rfl (hb hby at_83) ?_
      show Steps p.tables e below (T21.setTop (mkF m 84 #[.val (.int p1), .val (.int p2), .val (.int p3), .val (.int p4), .val (.int p5), .val (.int p6), .val (.int sel), .val (.long la), .second, .val (.long lb), .second, .val (.long lc), .second, .val (.long lx), .second, .val (.long ly), .second, .val (.ref b1), .unset, .unset, .unset, .unset, .unset] [(.int (1 : Int32)), (.int sel)])) _
      refine XS.icmpNo X21.here hx rfl (hb hby at_84) rfl (teq (by rw [hs] <;> decide)).2 ?_
      show Steps p.tables e below (T21.setTop (mkF m 87 #[.val (.int p1), .val (.int p2), .val (.int p3), .val (.int p4), .val (.int p5), .val (.int p6), .val (.int sel), .val (.long la), .second, .val (.long lb), .second, .val (.long lc), .second, .val (.long lx), .second, .val (.long ly), .second, .val (.ref b1), .unset, .unset, .unset, .unset, .unset] [])) _
      refine XS.iconst X21.here hx rfl (hb hby at_87) ?_
      exact Steps.refl _
    obtain ⟨T32, h32, k32, X32, e32, E32, A32, st32⟩ := newP X21 hx hZ (hw _ (List.mem_of_getElem? (i := 2) rfl)) e21 (g := (mkF m 88 #[.val (.int p1), .val (.int p2), .val (.int p3), .val (.int p4), .val (.int p5), .val (.int p6), .val (.int sel), .val (.long la), .second, .val (.long lb), .second, .val (.long lc), .second, .val (.long lx), .second, .val (.long ly), .second, .val (.ref b1), .unset, .unset, .unset, .unset, .unset] [(.int (1 : Int32))])) rfl (hb hby at_88) rfl (by decide) (cap := 1) (by decide) (by decide) (by decide) (by decide)
    obtain ⟨b2, g32⟩ : ∃ z, z = h21.size := ⟨_, rfl⟩
    rw [← g32] at A32 st32
    have ne_b1_b2 : b1 ≠ b2 := Nat.ne_of_lt (by rw [g32]; exact GA.lt)
    have G_b2 : Gar Z h32 b2 .double ((1 : Int32)).toNatClampNeg (fun _ => defaultValue .double) := Gar.new A32
    have g_b2 : n0 ≤ b2 := Nat.le_trans Z21 (Nat.le_of_eq g32.symm)
    have G32_b1 := GA.ext E32
    have Z32 : n0 ≤ h32.size := Nat.le_trans Z21 E32.1
    have r33 : Steps p.tables e below S0 (T32.setTop (mkF m 90 #[.val (.int p1), .val (.int p2), .val (.int p3), .val (.int p4), .val (.int p5), .val (.int p6), .val (.int sel), .val (.long la), .second, .val (.long lb), .second, .val (.long lc), .second, .val (.long lx), .second, .val (.long ly), .second, .val (.ref b1), .unset, .unset, .unset, .unset, .unset] [(.ref b2)])) := r31.trans (st32 _ (Steps.refl _))
    have r34 : Steps p.tables e below S0 (T32.setTop (mkF m 95 #[.val (.int p1), .val (.int p2), .val (.int p3), .val (.int p4), .val (.int p5), .val (.int p6), .val (.int sel), .val (.long la), .second, .val (.long lb), .second, .val (.long lc), .second, .val (.long lx), .second, .val (.long ly), .second, .val (.ref b1), .unset, .unset, .unset, .unset, .unset] [(.double (FP.l2d lx)), (.int (0 : Int32)), (.ref b2), (.ref b2)])) := by
      refine r33.trans ?_
      show Steps p.tables e below (T32.setTop (mkF m 90 #[.val (.int p1), .val (.int p2), .val (.int p3), .val (.int p4), .val (.int p5), .val (.int p6), .val (.int sel), .val (.long la), .second, .val (.long lb), .second, .val (.long lc), .second, .val (.long lx), .second, .val (.long ly), .second, .val (.ref b1), .unset, .unset, .unset, .unset, .unset] [(.ref b2)])) _
      refine XS.dup X32.here hx rfl (hb hby at_90) rfl rfl ?_
      show Steps p.tables e below (T32.setTop (mkF m 91 #[.val (.int p1), .val (.int p2), .val (.int p3), .val (.int p4), .val (.int p5), .val (.int p6), .val (.int sel), .val (.long la), .second, .val (.long lb), .second, .val (.long lc), .second, .val (.long lx), .second, .val (.long ly), .second, .val (.ref b1), .unset, .unset, .unset, .unset, .unset] [(.ref b2), (.ref b2)])) _
      refine XS.iconst X32.here hx rfl (hb hby at_91) ?_
      show Steps p.tables e below (T32.setTop (mkF m 92 #[.val (.int p1), .val (.int p2), .val (.int p3), .val (.int p4), .val (.int p5), .val (.int p6), .val (.int sel), .val (.long la), .second, .val (.long lb), .second, .val (.long lc), .second, .val (.long lx), .second, .val (.long ly), .second, .val (.ref b1), .unset, .unset, .unset, .unset, .unset] [(.int (0 : Int32)), (.ref b2), (.ref b2)])) _
      refine XS.lload X32.here hx rfl (hb hby at_92) rfl ?_
      show Steps p.tables e below (T32.setTop (mkF m 94 #[.val (.int p1), .val (.int p2), .val (.int p3), .val (.int p4), .val (.int p5), .val (.int p6), .val (.int sel), .val (.long la), .second, .val (.long lb), .second, .val (.long lc), .second, .val (.long lx), .second, .val (.long ly), .second, .val (.ref b1), .unset, .unset, .unset, .unset, .unset] [(.long lx), (.int (0 : Int32)), (.ref b2), (.ref b2)])) _
      refine XS.l2dS X32.here hx rfl (hb hby at_94) rfl rfl ?_
      exact Steps.refl _
    obtain ⟨T35, h35, X35, e35, W35, st35⟩ := stDG X32 hx hZ e32 G_b2 (j := (0 : Int32)) (by decide) (by decide) (g := (mkF m 95 #[.val (.int p1), .val (.int p2), .val (.int p3), .val (.int p4), .val (.int p5), .val (.int p6), .val (.int sel), .val (.long la), .second, .val (.long lb), .second, .val (.long lc), .second, .val (.long lx), .second, .val (.long ly), .second, .val (.ref b1), .unset, .unset, .unset, .unset, .unset] [(.double (FP.l2d lx)), (.int (0 : Int32)), (.ref b2), (.ref b2)])) rfl rfl (hb hby at_95)
    have N35 := Fr.snoc X35 N21 g_b2
    have G35_b1 := G32_b1.other W35 ne_b1_b2
    have G35_b2 := G_b2.set W35
    have Z35 : n0 ≤ h35.size := Nat.le_trans Z32 (Nat.le_of_eq W35.size.symm)
    have r36 : Steps p.tables e below S0 (T35.setTop (mkF m 96 #[.val (.int p1), .val (.int p2), .val (.int p3), .val (.int p4), .val (.int p5), .val (.int p6), .val (.int sel), .val (.long la), .second, .val (.long lb), .second, .val (.long lc), .second, .val (.long lx), .second, .val (.long ly), .second, .val (.ref b1), .unset, .unset, .unset, .unset, .unset] [(.ref b2)])) := r34.trans (st35 _ (Steps.refl _))
    have GB : Gar Z h35 b2 .double 1 (fun i => .double (own_f2 (FP.l2d lx) (FP.l2d ly) i)) := (G35_b2.len (by decide)).congr (fun i hi => by
        have hi2 : i = 0 := by omega
        subst hi2; rfl)
    have hex : ((la + (lb * lx))).toInt = la.toInt + lb.toInt * lx.toInt := own_e1 bla m1
    have r37 : Steps p.tables e below S0 (T35.setTop (mkF m 158 #[.val (.int p1), .val (.int p2), .val (.int p3), .val (.int p4), .val (.int p5), .val (.int p6), .val (.int sel), .val (.long la), .second, .val (.long lb), .second, .val (.long lc), .second, .val (.long lx), .second, .val (.long ly), .second, .val (.ref b1), .val (.ref b2), .val (.long (la + (lb * lx))), .second, .unset, .unset] [(.ref b2), (.ref b1)])) := by
      refine r36.trans ?_
      show Steps p.tables e below (T35.setTop (mkF m 96 #[.val (.int p1), .val (.int p2), .val (.int p3), .val (.int p4), .val (.int p5), .val (.int p6), .val (.int sel), .val (.long la), .second, .val (.long lb), .second, .val (.long lc), .second, .val (.long lx), .second, .val (.long ly), .second, .val (.ref b1), .unset, .unset, .unset, .unset, .unset] [(.ref b2)])) _
      refine XS.astore X35.here hx rfl (hb hby at_96) rfl rfl (l' := #[.val (.int p1), .val (.int p2), .val (.int p3), .val (.int p4), .val (.int p5), .val (.int p6), .val (.int sel), .val (.long la), .second, .val (.long lb), .second, .val (.long lc), .second, .val (.long lx), .second, .val (.long ly), .second, .val (.ref b1), .val (.ref b2), .unset, .unset, .unset, .unset]) rfl ?_
      show Steps p.tables e below (T35.setTop (mkF m 98 #[.val (.int p1), .val (.int p2), .val (.int p3), .val (.int p4), .val (.int p5), .val (.int p6), .val (.int sel), .val (.long la), .second, .val (.long lb), .second, .val (.long lc), .second, .val (.long lx), .second, .val (.long ly), .second, .val (.ref b1), .val (.ref b2), .unset, .unset, .unset, .unset] [])) _
      refine XS.goto X35.here hx rfl (pc0 := 98) (pc' := 118) rfl (hb hby at_98) (by decide) (by decide) ?_
      show Steps p.tables e below (T35.setTop (mkF m 118 #[.val (.int p1), .val (.int p2), .val (.int p3), .val (.int p4), .val (.int p5), .val (.int p6), .val (.int sel), .val (.long la), .second, .val (.long lb), .second, .val (.long lc), .second, .val (.long lx), .second, .val (.long ly), .second, .val (.ref b1), .val (.ref b2), .unset, .unset, .unset, .unset] [])) _
      refine XS.lload X35.here hx rfl (hb hby at_118) rfl ?_
      show Steps p.tables e below (T35.setTop (mkF m 120 #[.val (.int p1), .val (.int p2), .val (.int p3), .val (.int p4), .val (.int p5), .val (.int p6), .val (.int sel), .val (.long la), .second, .val (.long lb), .second, .val (.long lc), .second, .val (.long lx), .second, .val (.long ly), .second, .val (.ref b1), .val (.ref b2), .unset, .unset, .unset, .unset] [(.long la)])) _
      refine XS.lstore X35.here hx rfl (hb hby at_120) rfl (l' := #[.val (.int p1), .val (.int p2), .val (.int p3), .val (.int p4), .val (.int p5), .val (.int p6), .val (.int sel), .val (.long la), .second, .val (.long lb), .second, .val (.long lc), .second, .val (.long lx), .second, .val (.long ly), .second, .val (.ref b1), .val (.ref b2), .val (.long la), .second, .unset, .unset]) rfl ?_
      show Steps p.tables e below (T35.setTop (mkF m 122 #[.val (.int p1), .val (.int p2), .val (.int p3), .val (.int p4), .val (.int p5), .val (.int p6), .val (.int sel), .val (.long la), .second, .val (.long lb), .second, .val (.long lc), .second, .val (.long lx), .second, .val (.long ly), .second, .val (.ref b1), .val (.ref b2), .val (.long la), .second, .unset, .unset] [])) _
      refine XS.iload X35.here hx rfl (hb hby at_122) rfl ?_
      show Steps p.tables e below (T35.setTop (mkF m 124 #[.val (.int p1), .val (.int p2), .val (.int p3), .val (.int p4), .val (.int p5), .val (.int p6), .val (.int sel), .val (.long la), .second, .val (.long lb), .second, .val (.long lc), .second, .val (.long lx), .second, .val (.long ly), .second, .val (.ref b1), .val (.ref b2), .val (.long la), .second, .unset, .unset] [(.int sel)])) _
      refine XS.iconst X35.here hx rfl (hb hby at_124) ?_
      show Steps p.tables e below (T35.setTop (mkF m 125 #[.val (.int p1), .val (.int p2), .val (.int p3), .val (.int p4), .val (.int p5), .val (.int p6), .val (.int sel), .val (.long la), .second, .val (.long lb), .second, .val (.long lc), .second, .val (.long lx), .second, .val (.long ly), .second, .val (.ref b1), .val (.ref b2), .val (.long la), .second, .unset, .unset] [(.int (1 : Int32)), (.int sel)])) _
      refine XS.icmpNo X35.here hx rfl (hb hby at_125) rfl (flt (by rw [hs] <;> decide)).1 ?_
      show Steps p.tables e below (T35.setTop (mkF m 128 #[.val (.int p1), .val (.int p2), .val (.int p3), .val (.int p4), .val (.int p5), .val (.int p6), .val (.int sel), .val (.long la), .second, .val (.long lb), .second, .val (.long lc), .second, .val (.long lx), .second, .val (.long ly), .second, .val (.ref b1), .val (.ref b2), .val (.long la), .second, .unset, .unset] [])) _
      refine XS.lload X35.here hx rfl (hb hby at_128) rfl ?_
      show Steps p.tables e below (T35.setTop (mkF m 130 #[.val (.int p1), .val (.int p2), .val (.int p3), .val (.int p4), .val (.int p5), .val (.int p6), .val (.int sel), .val (.long la), .second, .val (.long lb), .second, .val (.long lc), .second, .val (.long lx), .second, .val (.long ly), .second, .val (.ref b1), .val (.ref b2), .val (.long la), .second, .unset, .unset] [(.long la)])) _
      refine XS.lload X35.here hx rfl (hb hby at_130) rfl ?_
      show Steps p.tables e below (T35.setTop (mkF m 132 #[.val (.int p1), .val (.int p2), .val (.int p3), .val (.int p4), .val (.int p5), .val (.int p6), .val (.int sel), .val (.long la), .second, .val (.long lb), .second, .val (.long lc), .second, .val (.long lx), .second, .val (.long ly), .second, .val (.ref b1), .val (.ref b2), .val (.long la), .second, .unset, .unset] [(.long lb), (.long la)])) _
      refine XS.lload X35.here hx rfl (hb hby at_132) rfl ?_
      show Steps p.tables e below (T35.setTop (mkF m 134 #[.val (.int p1), .val (.int p2), .val (.int p3), .val (.int p4), .val (.int p5), .val (.int p6), .val (.int sel), .val (.long la), .second, .val (.long lb), .second, .val (.long lc), .second, .val (.long lx), .second, .val (.long ly), .second, .val (.ref b1), .val (.ref b2), .val (.long la), .second, .unset, .unset] [(.long lx), (.long lb), (.long la)])) _
      refine XS.lmul X35.here hx rfl (hb hby at_134) rfl ?_
      show Steps p.tables e below (T35.setTop (mkF m 135 #[.val (.int p1), .val (.int p2), .val (.int p3), .val (.int p4), .val (.int p5), .val (.int p6), .val (.int sel), .val (.long la), .second, .val (.long lb), .second, .val (.long lc), .second, .val (.long lx), .second, .val (.long ly), .second, .val (.ref b1), .val (.ref b2), .val (.long la), .second, .unset, .unset] [(.long (lb * lx)), (.long la)])) _
      refine XS.ladd X35.here hx rfl (hb hby at_135) rfl ?_
      show Steps p.tables e below (T35.setTop (mkF m 136 #[.val (.int p1), .val (.int p2), .val (.int p3), .val (.int p4), .val (.int p5), .val (.int p6), .val (.int sel), .val (.long la), .second, .val (.long lb), .second, .val (.long lc), .second, .val (.long lx), .second, .val (.long ly), .second, .val (.ref b1), .val (.ref b2), .val (.long la), .second, .unset, .unset] [(.long (la + (lb * lx)))])) _
      refine XS.lstore X35.here hx rfl (hb hby at_136) rfl (l' := #[.val (.int p1), .val (.int p2), .val (.int p3), .val (.int p4), .val (.int p5), .val (.int p6), .val (.int sel), .val (.long la), .second, .val (.long lb), .second, .val (.long lc), .second, .val (.long lx), .second, .val (.long ly), .second, .val (.ref b1), .val (.ref b2), .val (.long (la + (lb * lx))), .second, .unset, .unset]) rfl ?_
      show Steps p.tables e below (T35.setTop (mkF m 138 #[.val (.int p1), .val (.int p2), .val (.int p3), .val (.int p4), .val (.int p5), .val (.int p6), .val (.int sel), .val (.long la), .second, .val (.long lb), .second, .val (.long lc), .second, .val (.long lx), .second, .val (.long ly), .second, .val (.ref b1), .val (.ref b2), .val (.long (la + (lb * lx))), .second, .unset, .unset] [])) _
      refine XS.iload X35.here hx rfl (hb hby at_138) rfl ?_
      show Steps p.tables e below (T35.setTop (mkF m 140 #[.val (.int p1), .val (.int p2), .val (.int p3), .val (.int p4), .val (.int p5), .val (.int p6), .val (.int sel), .val (.long la), .second, .val (.long lb), .second, .val (.long lc), .second, .val (.long lx), .second, .val (.long ly), .second, .val (.ref b1), .val (.ref b2), .val (.long (la + (lb * lx))), .second, .unset, .unset] [(.int sel)])) _
      refine XS.iconst X35.here hx rfl (hb hby at_140) ?_
      show Steps p.tables e below (T35.setTop (mkF m 141 #[.val (.int p1), .val (.int p2), .val (.int p3), .val (.int p4), .val (.int p5), .val (.int p6), .val (.int sel), .val (.long la), .second, .val (.long lb), .second, .val (.long lc), .second, .val (.long lx), .second, .val (.long ly), .second, .val (.ref b1), .val (.ref b2), .val (.long (la + (lb * lx))), .second, .unset, .unset] [(.int (2 : Int32)), (.int sel)])) _
      refine XS.icmpYes X35.here hx rfl (pc0 := 141) (pc' := 154) rfl (hb hby at_141) rfl (tlt (by rw [hs] <;> decide)).1 (by decide) (by decide) ?_
      show Steps p.tables e below (T35.setTop (mkF m 154 #[.val (.int p1), .val (.int p2), .val (.int p3), .val (.int p4), .val (.int p5), .val (.int p6), .val (.int sel), .val (.long la), .second, .val (.long lb), .second, .val (.long lc), .second, .val (.long lx), .second, .val (.long ly), .second, .val (.ref b1), .val (.ref b2), .val (.long (la + (lb * lx))), .second, .unset, .unset] [])) _
      refine XS.aload X35.here hx rfl (hb hby at_154) rfl rfl ?_
      show Steps p.tables e below (T35.setTop (mkF m 156 #[.val (.int p1), .val (.int p2), .val (.int p3), .val (.int p4), .val (.int p5), .val (.int p6), .val (.int sel), .val (.long la), .second, .val (.long lb), .second, .val (.long lc), .second, .val (.long lx), .second, .val (.long ly), .second, .val (.ref b1), .val (.ref b2), .val (.long (la + (lb * lx))), .second, .unset, .unset] [(.ref b1)])) _
      refine XS.aload X35.here hx rfl (hb hby at_156) rfl rfl ?_
      exact Steps.refl _
    obtain ⟨_, _, ⟨T38, L38, k38, n38⟩, -, X38, ⟨Lc38, hQ38, l38, y38, z38⟩, st38⟩ := Jvm.LawKit.callS X35 hx (y := (⟨"com/example/polytome/polytome/benchmark/LogLikelihood", "score", "([D[D)D"⟩ : MethodName)) hown (mvT hZ (hw _ (List.mem_of_getElem? (i := 3) rfl))) (mvT hZ (hw _ (List.mem_of_getElem? (i := 4) rfl))) (mvT hZ (hw _ (List.mem_of_getElem? (i := 5) rfl))) (mvT hZ (hw _ (List.mem_of_getElem? (i := 6) rfl))) (by decide) (backOf (W := 0) (rm1_1 l Z a0 hw [] b1 b2 (FP.l2d la) (FP.l2d lb) (FP.l2d lc) (FP.l2d lx) (FP.l2d ly) la.toInt lb.toInt lc.toInt lx.toInt ly.toInt h35 n0 Z35 G35_b1 GB yla ylb ylc ylx yly bla blb blc blx bly) hZ (hw _ (List.mem_of_getElem? (i := 6) rfl)) (hw _ (List.mem_of_getElem? (i := 5) rfl)) (by decide) (by decide)) (g := (mkF m 158 #[.val (.int p1), .val (.int p2), .val (.int p3), .val (.int p4), .val (.int p5), .val (.int p6), .val (.int sel), .val (.long la), .second, .val (.long lb), .second, .val (.long lc), .second, .val (.long lx), .second, .val (.long ly), .second, .val (.ref b1), .val (.ref b2), .val (.long (la + (lb * lx))), .second, .unset, .unset] [(.ref b2), (.ref b1)])) rfl (by rw [hml]; rfl) (argsL := [(.ref b1), (.ref b2)]) (rest := []) (lenOf pd_0 rfl) rfl (by show 2 * 0 + _ ≤ _; exact Nat.le_of_eq rfl) (hb hby at_158) (fun _ _ => ⟨rfl, e35, (by decide : ((0 + 1) + 1) + 0 ≤ _), (by decide : ((0 + 3) + 1) + 0 ≤ _)⟩)
    dsimp only [Pt.U, Pt.locs, Pt.cells, Pt.slots] at X38 l38 y38 z38 st38 hQ38
    subst l38 y38 z38
    obtain ⟨w9, rfl, yw, Nq38, e38⟩ := hQ38
    have N38 := Fr.app N35 Nq38
    have r39 : Steps p.tables e below S0 (T38.setTop (mkF m 161 #[.val (.int p1), .val (.int p2), .val (.int p3), .val (.int p4), .val (.int p5), .val (.int p6), .val (.int sel), .val (.long la), .second, .val (.long lb), .second, .val (.long lc), .second, .val (.long lx), .second, .val (.long ly), .second, .val (.ref b1), .val (.ref b2), .val (.long (la + (lb * lx))), .second, .unset, .unset] [(.double w9)])) := r37.trans (st38 _ (Steps.refl _))
    have r40 : Steps p.tables e below S0 (T38.setTop (mkF m 177 #[.val (.int p1), .val (.int p2), .val (.int p3), .val (.int p4), .val (.int p5), .val (.int p6), .val (.int sel), .val (.long la), .second, .val (.long lb), .second, .val (.long lc), .second, .val (.long lx), .second, .val (.long ly), .second, .val (.ref b1), .val (.ref b2), .val (.long (la + (lb * lx))), .second, .val (.double w9), .second] [(.int (1 : Int32))])) := by
      refine r39.trans ?_
      show Steps p.tables e below (T38.setTop (mkF m 161 #[.val (.int p1), .val (.int p2), .val (.int p3), .val (.int p4), .val (.int p5), .val (.int p6), .val (.int sel), .val (.long la), .second, .val (.long lb), .second, .val (.long lc), .second, .val (.long lx), .second, .val (.long ly), .second, .val (.ref b1), .val (.ref b2), .val (.long (la + (lb * lx))), .second, .unset, .unset] [(.double w9)])) _
      refine XS.dstore X38.here hx rfl (hb hby at_161) rfl (l' := #[.val (.int p1), .val (.int p2), .val (.int p3), .val (.int p4), .val (.int p5), .val (.int p6), .val (.int sel), .val (.long la), .second, .val (.long lb), .second, .val (.long lc), .second, .val (.long lx), .second, .val (.long ly), .second, .val (.ref b1), .val (.ref b2), .val (.long (la + (lb * lx))), .second, .val (.double w9), .second]) rfl ?_
      show Steps p.tables e below (T38.setTop (mkF m 163 #[.val (.int p1), .val (.int p2), .val (.int p3), .val (.int p4), .val (.int p5), .val (.int p6), .val (.int sel), .val (.long la), .second, .val (.long lb), .second, .val (.long lc), .second, .val (.long lx), .second, .val (.long ly), .second, .val (.ref b1), .val (.ref b2), .val (.long (la + (lb * lx))), .second, .val (.double w9), .second] [])) _
      refine XS.dload X38.here hx rfl (hb hby at_163) rfl ?_
      show Steps p.tables e below (T38.setTop (mkF m 165 #[.val (.int p1), .val (.int p2), .val (.int p3), .val (.int p4), .val (.int p5), .val (.int p6), .val (.int sel), .val (.long la), .second, .val (.long lb), .second, .val (.long lc), .second, .val (.long lx), .second, .val (.long ly), .second, .val (.ref b1), .val (.ref b2), .val (.long (la + (lb * lx))), .second, .val (.double w9), .second] [(.double w9)])) _
      refine XS.lload X38.here hx rfl (hb hby at_165) rfl ?_
      show Steps p.tables e below (T38.setTop (mkF m 167 #[.val (.int p1), .val (.int p2), .val (.int p3), .val (.int p4), .val (.int p5), .val (.int p6), .val (.int sel), .val (.long la), .second, .val (.long lb), .second, .val (.long lc), .second, .val (.long lx), .second, .val (.long ly), .second, .val (.ref b1), .val (.ref b2), .val (.long (la + (lb * lx))), .second, .val (.double w9), .second] [(.long (la + (lb * lx))), (.double w9)])) _
      refine XS.l2dS X38.here hx rfl (hb hby at_167) rfl rfl ?_
      show Steps p.tables e below (T38.setTop (mkF m 168 #[.val (.int p1), .val (.int p2), .val (.int p3), .val (.int p4), .val (.int p5), .val (.int p6), .val (.int sel), .val (.long la), .second, .val (.long lb), .second, .val (.long lc), .second, .val (.long lx), .second, .val (.long ly), .second, .val (.ref b1), .val (.ref b2), .val (.long (la + (lb * lx))), .second, .val (.double w9), .second] [(.double (FP.l2d (la + (lb * lx)))), (.double w9)])) _
      refine XS.dcmpS X38.here hx rfl (hb hby at_168) rfl (show cmpValue (FP.dcmp w9 (FP.l2d (la + (lb * lx)))) .l = (0 : Int32) from (by rw [yw.cmpV ((Dy.l2d (by rw [hex]; omega)).cast hex rfl)]; simp)) ?_
      show Steps p.tables e below (T38.setTop (mkF m 169 #[.val (.int p1), .val (.int p2), .val (.int p3), .val (.int p4), .val (.int p5), .val (.int p6), .val (.int sel), .val (.long la), .second, .val (.long lb), .second, .val (.long lc), .second, .val (.long lx), .second, .val (.long ly), .second, .val (.ref b1), .val (.ref b2), .val (.long (la + (lb * lx))), .second, .val (.double w9), .second] [(.int (0 : Int32))])) _
      refine XS.ifNo X38.here hx rfl (hb hby at_169) rfl ((if0 _ _).trans (teq rfl).2) ?_
      show Steps p.tables e below (T38.setTop (mkF m 172 #[.val (.int p1), .val (.int p2), .val (.int p3), .val (.int p4), .val (.int p5), .val (.int p6), .val (.int sel), .val (.long la), .second, .val (.long lb), .second, .val (.long lc), .second, .val (.long lx), .second, .val (.long ly), .second, .val (.ref b1), .val (.ref b2), .val (.long (la + (lb * lx))), .second, .val (.double w9), .second] [])) _
      refine XS.iconst X38.here hx rfl (hb hby at_172) ?_
      show Steps p.tables e below (T38.setTop (mkF m 173 #[.val (.int p1), .val (.int p2), .val (.int p3), .val (.int p4), .val (.int p5), .val (.int p6), .val (.int sel), .val (.long la), .second, .val (.long lb), .second, .val (.long lc), .second, .val (.long lx), .second, .val (.long ly), .second, .val (.ref b1), .val (.ref b2), .val (.long (la + (lb * lx))), .second, .val (.double w9), .second] [(.int (1 : Int32))])) _
      refine XS.goto X38.here hx rfl (pc0 := 173) (pc' := 177) rfl (hb hby at_173) (by decide) (by decide) ?_
      exact Steps.refl _
    obtain ⟨fs, hr, hrun, hended, hW, hsame⟩ := X38.leave (v := some (.int (1 : Int32))) (fun h => by rw [Bd.returns] at h; cases h)
    refine ⟨_, _, pre0 _ ?_, hrun, hended, _, _, rfl, ?_, ⟨_, rfl⟩, hW, hsame.mono (by decide) (by decide)⟩
    · rw [← hS0]
      refine r40.trans ?_
      show Steps p.tables e below (T38.setTop (mkF m 177 #[.val (.int p1), .val (.int p2), .val (.int p3), .val (.int p4), .val (.int p5), .val (.int p6), .val (.int sel), .val (.long la), .second, .val (.long lb), .second, .val (.long lc), .second, .val (.long lx), .second, .val (.long ly), .second, .val (.ref b1), .val (.ref b2), .val (.long (la + (lb * lx))), .second, .val (.double w9), .second] [(.int (1 : Int32))])) _
      exact retB X38 hx Bd.returns (by first | exact Or.inr rfl | exact Or.inl rfl | (split <;> simp)) (hb hby at_177) hr
    · exact ⟨rfl, N38⟩
  · skip
    have r41 : Steps p.tables e below S0 (T21.setTop (mkF m 102 #[.val (.int p1), .val (.int p2), .val (.int p3), .val (.int p4), .val (.int p5), .val (.int p6), .val (.int sel), .val (.long la), .second, .val (.long lb), .second, .val (.long lc), .second, .val (.long lx), .second, .val (.long ly), .second, .val (.ref b1), .unset, .unset, .unset, .unset, .unset] [(.int (2 : Int32))])) := by
      refine r23.trans ?_
      show Steps p.tables e below (T21.setTop (mkF m 70 #[.val (.int p1), .val (.int p2), .val (.int p3), .val (.int p4), .val (.int p5), .val (.int p6), .val (.int sel), .val (.long la), .second, .val (.long lb), .second, .val (.long lc), .second, .val (.long lx), .second, .val (.long ly), .second, .val (.ref b1), .unset, .unset, .unset, .unset, .unset] [(.int sel)])) _
      refine XS.ifYes X21.here hx rfl (pc0 := 70) (pc' := 81) rfl (hb hby at_70) rfl ((if0 _ _).trans (feq (by rw [hs] <;> decide)).2) (by decide) (by decide) ?_
      show Steps p.tables e below (T21.setTop (mkF m 81 #[.val (.int p1), .val (.int p2), .val (.int p3), .val (.int p4), .val (.int p5), .val (.int p6), .val (.int sel), .val (.long la), .second, .val (.long lb), .second, .val (.long lc), .second, .val (.long lx), .second, .val (.long ly), .second, .val (.ref b1), .unset, .unset, .unset, .unset, .unset] [])) _
      refine XS.iload X21.here hx rfl (hb hby at_81) rfl ?_
      show Steps p.tables e below (T21.setTop (mkF m 83 #[.val (.int p1), .val (.int p2), .val (.int p3), .val (.int p4), .val (.int p5), .val (.int p6), .val (.int sel), .val (.long la), .second, .val (.long lb), .second, .val (.long lc), .second, .val (.long lx), .second, .val (.long ly), .second, .val (.ref b1), .unset, .unset, .unset, .unset, .unset] [(.int sel)])) _
      refine XS.iconst X21.here hx rfl (hb hby at_83) ?_
      show Steps p.tables e below (T21.setTop (mkF m 84 #[.val (.int p1), .val (.int p2), .val (.int p3), .val (.int p4), .val (.int p5), .val (.int p6), .val (.int sel), .val (.long la), .second, .val (.long lb), .second, .val (.long lc), .second, .val (.long lx), .second, .val (.long ly), .second, .val (.ref b1), .unset, .unset, .unset, .unset, .unset] [(.int (1 : Int32)), (.int sel)])) _
      refine XS.icmpYes X21.here hx rfl (pc0 := 84) (pc' := 101) rfl (hb hby at_84) rfl (feq (by rw [hs] <;> decide)).2 (by decide) (by decide) ?_
      show Steps p.tables e below (T21.setTop (mkF m 101 #[.val (.int p1), .val (.int p2), .val (.int p3), .val (.int p4), .val (.int p5), .val (.int p6), .val (.int sel), .val (.long la), .second, .val (.long lb), .second, .val (.long lc), .second, .val (.long lx), .second, .val (.long ly), .second, .val (.ref b1), .unset, .unset, .unset, .unset, .unset] [])) _
      refine XS.iconst X21.here hx rfl (hb hby at_101) ?_
      exact Steps.refl _
    obtain ⟨T42, h42, k42, X42, e42, E42, A42, st42⟩ := newP X21 hx hZ (hw _ (List.mem_of_getElem? (i := 2) rfl)) e21 (g := (mkF m 102 #[.val (.int p1), .val (.int p2), .val (.int p3), .val (.int p4), .val (.int p5), .val (.int p6), .val (.int sel), .val (.long la), .second, .val (.long lb), .second, .val (.long lc), .second, .val (.long lx), .second, .val (.long ly), .second, .val (.ref b1), .unset, .unset, .unset, .unset, .unset] [(.int (2 : Int32))])) rfl (hb hby at_102) rfl (by decide) (cap := 2) (by decide) (by decide) (by decide) (by decide)
    obtain ⟨b2, g42⟩ : ∃ z, z = h21.size := ⟨_, rfl⟩
    rw [← g42] at A42 st42
    have ne_b1_b2 : b1 ≠ b2 := Nat.ne_of_lt (by rw [g42]; exact GA.lt)
    have G_b2 : Gar Z h42 b2 .double ((2 : Int32)).toNatClampNeg (fun _ => defaultValue .double) := Gar.new A42
    have g_b2 : n0 ≤ b2 := Nat.le_trans Z21 (Nat.le_of_eq g42.symm)
    have G42_b1 := GA.ext E42
    have Z42 : n0 ≤ h42.size := Nat.le_trans Z21 E42.1
    have r43 : Steps p.tables e below S0 (T42.setTop (mkF m 104 #[.val (.int p1), .val (.int p2), .val (.int p3), .val (.int p4), .val (.int p5), .val (.int p6), .val (.int sel), .val (.long la), .second, .val (.long lb), .second, .val (.long lc), .second, .val (.long lx), .second, .val (.long ly), .second, .val (.ref b1), .unset, .unset, .unset, .unset, .unset] [(.ref b2)])) := r41.trans (st42 _ (Steps.refl _))
    have r44 : Steps p.tables e below S0 (T42.setTop (mkF m 109 #[.val (.int p1), .val (.int p2), .val (.int p3), .val (.int p4), .val (.int p5), .val (.int p6), .val (.int sel), .val (.long la), .second, .val (.long lb), .second, .val (.long lc), .second, .val (.long lx), .second, .val (.long ly), .second, .val (.ref b1), .unset, .unset, .unset, .unset, .unset] [(.double (FP.l2d lx)), (.int (0 : Int32)), (.ref b2), (.ref b2)])) := by
      refine r43.trans ?_
      show Steps p.tables e below (T42.setTop (mkF m 104 #[.val (.int p1), .val (.int p2), .val (.int p3), .val (.int p4), .val (.int p5), .val (.int p6), .val (.int sel), .val (.long la), .second, .val (.long lb), .second, .val (.long lc), .second, .val (.long lx), .second, .val (.long ly), .second, .val (.ref b1), .unset, .unset, .unset, .unset, .unset] [(.ref b2)])) _
      refine XS.dup X42.here hx rfl (hb hby at_104) rfl rfl ?_
      show Steps p.tables e below (T42.setTop (mkF m 105 #[.val (.int p1), .val (.int p2), .val (.int p3), .val (.int p4), .val (.int p5), .val (.int p6), .val (.int sel), .val (.long la), .second, .val (.long lb), .second, .val (.long lc), .second, .val (.long lx), .second, .val (.long ly), .second, .val (.ref b1), .unset, .unset, .unset, .unset, .unset] [(.ref b2), (.ref b2)])) _
      refine XS.iconst X42.here hx rfl (hb hby at_105) ?_
      show Steps p.tables e below (T42.setTop (mkF m 106 #[.val (.int p1), .val (.int p2), .val (.int p3), .val (.int p4), .val (.int p5), .val (.int p6), .val (.int sel), .val (.long la), .second, .val (.long lb), .second, .val (.long lc), .second, .val (.long lx), .second, .val (.long ly), .second, .val (.ref b1), .unset, .unset, .unset, .unset, .unset] [(.int (0 : Int32)), (.ref b2), (.ref b2)])) _
      refine XS.lload X42.here hx rfl (hb hby at_106) rfl ?_
      show Steps p.tables e below (T42.setTop (mkF m 108 #[.val (.int p1), .val (.int p2), .val (.int p3), .val (.int p4), .val (.int p5), .val (.int p6), .val (.int sel), .val (.long la), .second, .val (.long lb), .second, .val (.long lc), .second, .val (.long lx), .second, .val (.long ly), .second, .val (.ref b1), .unset, .unset, .unset, .unset, .unset] [(.long lx), (.int (0 : Int32)), (.ref b2), (.ref b2)])) _
      refine XS.l2dS X42.here hx rfl (hb hby at_108) rfl rfl ?_
      exact Steps.refl _
    obtain ⟨T45, h45, X45, e45, W45, st45⟩ := stDG X42 hx hZ e42 G_b2 (j := (0 : Int32)) (by decide) (by decide) (g := (mkF m 109 #[.val (.int p1), .val (.int p2), .val (.int p3), .val (.int p4), .val (.int p5), .val (.int p6), .val (.int sel), .val (.long la), .second, .val (.long lb), .second, .val (.long lc), .second, .val (.long lx), .second, .val (.long ly), .second, .val (.ref b1), .unset, .unset, .unset, .unset, .unset] [(.double (FP.l2d lx)), (.int (0 : Int32)), (.ref b2), (.ref b2)])) rfl rfl (hb hby at_109)
    have N45 := Fr.snoc X45 N21 g_b2
    have G45_b1 := G42_b1.other W45 ne_b1_b2
    have G45_b2 := G_b2.set W45
    have Z45 : n0 ≤ h45.size := Nat.le_trans Z42 (Nat.le_of_eq W45.size.symm)
    have r46 : Steps p.tables e below S0 (T45.setTop (mkF m 110 #[.val (.int p1), .val (.int p2), .val (.int p3), .val (.int p4), .val (.int p5), .val (.int p6), .val (.int sel), .val (.long la), .second, .val (.long lb), .second, .val (.long lc), .second, .val (.long lx), .second, .val (.long ly), .second, .val (.ref b1), .unset, .unset, .unset, .unset, .unset] [(.ref b2)])) := r44.trans (st45 _ (Steps.refl _))
    have r47 : Steps p.tables e below S0 (T45.setTop (mkF m 115 #[.val (.int p1), .val (.int p2), .val (.int p3), .val (.int p4), .val (.int p5), .val (.int p6), .val (.int sel), .val (.long la), .second, .val (.long lb), .second, .val (.long lc), .second, .val (.long lx), .second, .val (.long ly), .second, .val (.ref b1), .unset, .unset, .unset, .unset, .unset] [(.double (FP.l2d ly)), (.int (1 : Int32)), (.ref b2), (.ref b2)])) := by
      refine r46.trans ?_
      show Steps p.tables e below (T45.setTop (mkF m 110 #[.val (.int p1), .val (.int p2), .val (.int p3), .val (.int p4), .val (.int p5), .val (.int p6), .val (.int sel), .val (.long la), .second, .val (.long lb), .second, .val (.long lc), .second, .val (.long lx), .second, .val (.long ly), .second, .val (.ref b1), .unset, .unset, .unset, .unset, .unset] [(.ref b2)])) _
      refine XS.dup X45.here hx rfl (hb hby at_110) rfl rfl ?_
      show Steps p.tables e below (T45.setTop (mkF m 111 #[.val (.int p1), .val (.int p2), .val (.int p3), .val (.int p4), .val (.int p5), .val (.int p6), .val (.int sel), .val (.long la), .second, .val (.long lb), .second, .val (.long lc), .second, .val (.long lx), .second, .val (.long ly), .second, .val (.ref b1), .unset, .unset, .unset, .unset, .unset] [(.ref b2), (.ref b2)])) _
      refine XS.iconst X45.here hx rfl (hb hby at_111) ?_
      show Steps p.tables e below (T45.setTop (mkF m 112 #[.val (.int p1), .val (.int p2), .val (.int p3), .val (.int p4), .val (.int p5), .val (.int p6), .val (.int sel), .val (.long la), .second, .val (.long lb), .second, .val (.long lc), .second, .val (.long lx), .second, .val (.long ly), .second, .val (.ref b1), .unset, .unset, .unset, .unset, .unset] [(.int (1 : Int32)), (.ref b2), (.ref b2)])) _
      refine XS.lload X45.here hx rfl (hb hby at_112) rfl ?_
      show Steps p.tables e below (T45.setTop (mkF m 114 #[.val (.int p1), .val (.int p2), .val (.int p3), .val (.int p4), .val (.int p5), .val (.int p6), .val (.int sel), .val (.long la), .second, .val (.long lb), .second, .val (.long lc), .second, .val (.long lx), .second, .val (.long ly), .second, .val (.ref b1), .unset, .unset, .unset, .unset, .unset] [(.long ly), (.int (1 : Int32)), (.ref b2), (.ref b2)])) _
      refine XS.l2dS X45.here hx rfl (hb hby at_114) rfl rfl ?_
      exact Steps.refl _
    obtain ⟨T48, h48, X48, e48, W48, st48⟩ := stDG X45 hx hZ e45 G45_b2 (j := (1 : Int32)) (by decide) (by decide) (g := (mkF m 115 #[.val (.int p1), .val (.int p2), .val (.int p3), .val (.int p4), .val (.int p5), .val (.int p6), .val (.int sel), .val (.long la), .second, .val (.long lb), .second, .val (.long lc), .second, .val (.long lx), .second, .val (.long ly), .second, .val (.ref b1), .unset, .unset, .unset, .unset, .unset] [(.double (FP.l2d ly)), (.int (1 : Int32)), (.ref b2), (.ref b2)])) rfl rfl (hb hby at_115)
    have N48 := Fr.snoc X48 N45 g_b2
    have G48_b1 := G45_b1.other W48 ne_b1_b2
    have G48_b2 := G45_b2.set W48
    have Z48 : n0 ≤ h48.size := Nat.le_trans Z45 (Nat.le_of_eq W48.size.symm)
    have r49 : Steps p.tables e below S0 (T48.setTop (mkF m 116 #[.val (.int p1), .val (.int p2), .val (.int p3), .val (.int p4), .val (.int p5), .val (.int p6), .val (.int sel), .val (.long la), .second, .val (.long lb), .second, .val (.long lc), .second, .val (.long lx), .second, .val (.long ly), .second, .val (.ref b1), .unset, .unset, .unset, .unset, .unset] [(.ref b2)])) := r47.trans (st48 _ (Steps.refl _))
    have GB : Gar Z h48 b2 .double 2 (fun i => .double (own_f2 (FP.l2d lx) (FP.l2d ly) i)) := (G48_b2.len (by decide)).congr (fun i hi => by
        have hi2 : i = 0 ∨ i = 1 := by omega
        rcases hi2 with rfl | rfl <;> rfl)
    have hex : (((la + (lb * lx)) + (lc * ly))).toInt = la.toInt + lb.toInt * lx.toInt + lc.toInt * ly.toInt := own_e2 bla m1 m2
    have r50 : Steps p.tables e below S0 (T48.setTop (mkF m 158 #[.val (.int p1), .val (.int p2), .val (.int p3), .val (.int p4), .val (.int p5), .val (.int p6), .val (.int sel), .val (.long la), .second, .val (.long lb), .second, .val (.long lc), .second, .val (.long lx), .second, .val (.long ly), .second, .val (.ref b1), .val (.ref b2), .val (.long ((la + (lb * lx)) + (lc * ly))), .second, .unset, .unset] [(.ref b2), (.ref b1)])) := by
      refine r49.trans ?_
      show Steps p.tables e below (T48.setTop (mkF m 116 #[.val (.int p1), .val (.int p2), .val (.int p3), .val (.int p4), .val (.int p5), .val (.int p6), .val (.int sel), .val (.long la), .second, .val (.long lb), .second, .val (.long lc), .second, .val (.long lx), .second, .val (.long ly), .second, .val (.ref b1), .unset, .unset, .unset, .unset, .unset] [(.ref b2)])) _
      refine XS.astore X48.here hx rfl (hb hby at_116) rfl rfl (l' := #[.val (.int p1), .val (.int p2), .val (.int p3), .val (.int p4), .val (.int p5), .val (.int p6), .val (.int sel), .val (.long la), .second, .val (.long lb), .second, .val (.long lc), .second, .val (.long lx), .second, .val (.long ly), .second, .val (.ref b1), .val (.ref b2), .unset, .unset, .unset, .unset]) rfl ?_
      show Steps p.tables e below (T48.setTop (mkF m 118 #[.val (.int p1), .val (.int p2), .val (.int p3), .val (.int p4), .val (.int p5), .val (.int p6), .val (.int sel), .val (.long la), .second, .val (.long lb), .second, .val (.long lc), .second, .val (.long lx), .second, .val (.long ly), .second, .val (.ref b1), .val (.ref b2), .unset, .unset, .unset, .unset] [])) _
      refine XS.lload X48.here hx rfl (hb hby at_118) rfl ?_
      show Steps p.tables e below (T48.setTop (mkF m 120 #[.val (.int p1), .val (.int p2), .val (.int p3), .val (.int p4), .val (.int p5), .val (.int p6), .val (.int sel), .val (.long la), .second, .val (.long lb), .second, .val (.long lc), .second, .val (.long lx), .second, .val (.long ly), .second, .val (.ref b1), .val (.ref b2), .unset, .unset, .unset, .unset] [(.long la)])) _
      refine XS.lstore X48.here hx rfl (hb hby at_120) rfl (l' := #[.val (.int p1), .val (.int p2), .val (.int p3), .val (.int p4), .val (.int p5), .val (.int p6), .val (.int sel), .val (.long la), .second, .val (.long lb), .second, .val (.long lc), .second, .val (.long lx), .second, .val (.long ly), .second, .val (.ref b1), .val (.ref b2), .val (.long la), .second, .unset, .unset]) rfl ?_
      show Steps p.tables e below (T48.setTop (mkF m 122 #[.val (.int p1), .val (.int p2), .val (.int p3), .val (.int p4), .val (.int p5), .val (.int p6), .val (.int sel), .val (.long la), .second, .val (.long lb), .second, .val (.long lc), .second, .val (.long lx), .second, .val (.long ly), .second, .val (.ref b1), .val (.ref b2), .val (.long la), .second, .unset, .unset] [])) _
      refine XS.iload X48.here hx rfl (hb hby at_122) rfl ?_
      show Steps p.tables e below (T48.setTop (mkF m 124 #[.val (.int p1), .val (.int p2), .val (.int p3), .val (.int p4), .val (.int p5), .val (.int p6), .val (.int sel), .val (.long la), .second, .val (.long lb), .second, .val (.long lc), .second, .val (.long lx), .second, .val (.long ly), .second, .val (.ref b1), .val (.ref b2), .val (.long la), .second, .unset, .unset] [(.int sel)])) _
      refine XS.iconst X48.here hx rfl (hb hby at_124) ?_
      show Steps p.tables e below (T48.setTop (mkF m 125 #[.val (.int p1), .val (.int p2), .val (.int p3), .val (.int p4), .val (.int p5), .val (.int p6), .val (.int sel), .val (.long la), .second, .val (.long lb), .second, .val (.long lc), .second, .val (.long lx), .second, .val (.long ly), .second, .val (.ref b1), .val (.ref b2), .val (.long la), .second, .unset, .unset] [(.int (1 : Int32)), (.int sel)])) _
      refine XS.icmpNo X48.here hx rfl (hb hby at_125) rfl (flt (by rw [hs] <;> decide)).1 ?_
      show Steps p.tables e below (T48.setTop (mkF m 128 #[.val (.int p1), .val (.int p2), .val (.int p3), .val (.int p4), .val (.int p5), .val (.int p6), .val (.int sel), .val (.long la), .second, .val (.long lb), .second, .val (.long lc), .second, .val (.long lx), .second, .val (.long ly), .second, .val (.ref b1), .val (.ref b2), .val (.long la), .second, .unset, .unset] [])) _
      refine XS.lload X48.here hx rfl (hb hby at_128) rfl ?_
      show Steps p.tables e below (T48.setTop (mkF m 130 #[.val (.int p1), .val (.int p2), .val (.int p3), .val (.int p4), .val (.int p5), .val (.int p6), .val (.int sel), .val (.long la), .second, .val (.long lb), .second, .val (.long lc), .second, .val (.long lx), .second, .val (.long ly), .second, .val (.ref b1), .val (.ref b2), .val (.long la), .second, .unset, .unset] [(.long la)])) _
      refine XS.lload X48.here hx rfl (hb hby at_130) rfl ?_
      show Steps p.tables e below (T48.setTop (mkF m 132 #[.val (.int p1), .val (.int p2), .val (.int p3), .val (.int p4), .val (.int p5), .val (.int p6), .val (.int sel), .val (.long la), .second, .val (.long lb), .second, .val (.long lc), .second, .val (.long lx), .second, .val (.long ly), .second, .val (.ref b1), .val (.ref b2), .val (.long la), .second, .unset, .unset] [(.long lb), (.long la)])) _
      refine XS.lload X48.here hx rfl (hb hby at_132) rfl ?_
      show Steps p.tables e below (T48.setTop (mkF m 134 #[.val (.int p1), .val (.int p2), .val (.int p3), .val (.int p4), .val (.int p5), .val (.int p6), .val (.int sel), .val (.long la), .second, .val (.long lb), .second, .val (.long lc), .second, .val (.long lx), .second, .val (.long ly), .second, .val (.ref b1), .val (.ref b2), .val (.long la), .second, .unset, .unset] [(.long lx), (.long lb), (.long la)])) _
      refine XS.lmul X48.here hx rfl (hb hby at_134) rfl ?_
      show Steps p.tables e below (T48.setTop (mkF m 135 #[.val (.int p1), .val (.int p2), .val (.int p3), .val (.int p4), .val (.int p5), .val (.int p6), .val (.int sel), .val (.long la), .second, .val (.long lb), .second, .val (.long lc), .second, .val (.long lx), .second, .val (.long ly), .second, .val (.ref b1), .val (.ref b2), .val (.long la), .second, .unset, .unset] [(.long (lb * lx)), (.long la)])) _
      refine XS.ladd X48.here hx rfl (hb hby at_135) rfl ?_
      show Steps p.tables e below (T48.setTop (mkF m 136 #[.val (.int p1), .val (.int p2), .val (.int p3), .val (.int p4), .val (.int p5), .val (.int p6), .val (.int sel), .val (.long la), .second, .val (.long lb), .second, .val (.long lc), .second, .val (.long lx), .second, .val (.long ly), .second, .val (.ref b1), .val (.ref b2), .val (.long la), .second, .unset, .unset] [(.long (la + (lb * lx)))])) _
      refine XS.lstore X48.here hx rfl (hb hby at_136) rfl (l' := #[.val (.int p1), .val (.int p2), .val (.int p3), .val (.int p4), .val (.int p5), .val (.int p6), .val (.int sel), .val (.long la), .second, .val (.long lb), .second, .val (.long lc), .second, .val (.long lx), .second, .val (.long ly), .second, .val (.ref b1), .val (.ref b2), .val (.long (la + (lb * lx))), .second, .unset, .unset]) rfl ?_
      show Steps p.tables e below (T48.setTop (mkF m 138 #[.val (.int p1), .val (.int p2), .val (.int p3), .val (.int p4), .val (.int p5), .val (.int p6), .val (.int sel), .val (.long la), .second, .val (.long lb), .second, .val (.long lc), .second, .val (.long lx), .second, .val (.long ly), .second, .val (.ref b1), .val (.ref b2), .val (.long (la + (lb * lx))), .second, .unset, .unset] [])) _
      refine XS.iload X48.here hx rfl (hb hby at_138) rfl ?_
      show Steps p.tables e below (T48.setTop (mkF m 140 #[.val (.int p1), .val (.int p2), .val (.int p3), .val (.int p4), .val (.int p5), .val (.int p6), .val (.int sel), .val (.long la), .second, .val (.long lb), .second, .val (.long lc), .second, .val (.long lx), .second, .val (.long ly), .second, .val (.ref b1), .val (.ref b2), .val (.long (la + (lb * lx))), .second, .unset, .unset] [(.int sel)])) _
      refine XS.iconst X48.here hx rfl (hb hby at_140) ?_
      show Steps p.tables e below (T48.setTop (mkF m 141 #[.val (.int p1), .val (.int p2), .val (.int p3), .val (.int p4), .val (.int p5), .val (.int p6), .val (.int sel), .val (.long la), .second, .val (.long lb), .second, .val (.long lc), .second, .val (.long lx), .second, .val (.long ly), .second, .val (.ref b1), .val (.ref b2), .val (.long (la + (lb * lx))), .second, .unset, .unset] [(.int (2 : Int32)), (.int sel)])) _
      refine XS.icmpNo X48.here hx rfl (hb hby at_141) rfl (flt (by rw [hs] <;> decide)).1 ?_
      show Steps p.tables e below (T48.setTop (mkF m 144 #[.val (.int p1), .val (.int p2), .val (.int p3), .val (.int p4), .val (.int p5), .val (.int p6), .val (.int sel), .val (.long la), .second, .val (.long lb), .second, .val (.long lc), .second, .val (.long lx), .second, .val (.long ly), .second, .val (.ref b1), .val (.ref b2), .val (.long (la + (lb * lx))), .second, .unset, .unset] [])) _
      refine XS.lload X48.here hx rfl (hb hby at_144) rfl ?_
      show Steps p.tables e below (T48.setTop (mkF m 146 #[.val (.int p1), .val (.int p2), .val (.int p3), .val (.int p4), .val (.int p5), .val (.int p6), .val (.int sel), .val (.long la), .second, .val (.long lb), .second, .val (.long lc), .second, .val (.long lx), .second, .val (.long ly), .second, .val (.ref b1), .val (.ref b2), .val (.long (la + (lb * lx))), .second, .unset, .unset] [(.long (la + (lb * lx)))])) _
      refine XS.lload X48.here hx rfl (hb hby at_146) rfl ?_
      show Steps p.tables e below (T48.setTop (mkF m 148 #[.val (.int p1), .val (.int p2), .val (.int p3), .val (.int p4), .val (.int p5), .val (.int p6), .val (.int sel), .val (.long la), .second, .val (.long lb), .second, .val (.long lc), .second, .val (.long lx), .second, .val (.long ly), .second, .val (.ref b1), .val (.ref b2), .val (.long (la + (lb * lx))), .second, .unset, .unset] [(.long lc), (.long (la + (lb * lx)))])) _
      refine XS.lload X48.here hx rfl (hb hby at_148) rfl ?_
      show Steps p.tables e below (T48.setTop (mkF m 150 #[.val (.int p1), .val (.int p2), .val (.int p3), .val (.int p4), .val (.int p5), .val (.int p6), .val (.int sel), .val (.long la), .second, .val (.long lb), .second, .val (.long lc), .second, .val (.long lx), .second, .val (.long ly), .second, .val (.ref b1), .val (.ref b2), .val (.long (la + (lb * lx))), .second, .unset, .unset] [(.long ly), (.long lc), (.long (la + (lb * lx)))])) _
      refine XS.lmul X48.here hx rfl (hb hby at_150) rfl ?_
      show Steps p.tables e below (T48.setTop (mkF m 151 #[.val (.int p1), .val (.int p2), .val (.int p3), .val (.int p4), .val (.int p5), .val (.int p6), .val (.int sel), .val (.long la), .second, .val (.long lb), .second, .val (.long lc), .second, .val (.long lx), .second, .val (.long ly), .second, .val (.ref b1), .val (.ref b2), .val (.long (la + (lb * lx))), .second, .unset, .unset] [(.long (lc * ly)), (.long (la + (lb * lx)))])) _
      refine XS.ladd X48.here hx rfl (hb hby at_151) rfl ?_
      show Steps p.tables e below (T48.setTop (mkF m 152 #[.val (.int p1), .val (.int p2), .val (.int p3), .val (.int p4), .val (.int p5), .val (.int p6), .val (.int sel), .val (.long la), .second, .val (.long lb), .second, .val (.long lc), .second, .val (.long lx), .second, .val (.long ly), .second, .val (.ref b1), .val (.ref b2), .val (.long (la + (lb * lx))), .second, .unset, .unset] [(.long ((la + (lb * lx)) + (lc * ly)))])) _
      refine XS.lstore X48.here hx rfl (hb hby at_152) rfl (l' := #[.val (.int p1), .val (.int p2), .val (.int p3), .val (.int p4), .val (.int p5), .val (.int p6), .val (.int sel), .val (.long la), .second, .val (.long lb), .second, .val (.long lc), .second, .val (.long lx), .second, .val (.long ly), .second, .val (.ref b1), .val (.ref b2), .val (.long ((la + (lb * lx)) + (lc * ly))), .second, .unset, .unset]) rfl ?_
      show Steps p.tables e below (T48.setTop (mkF m 154 #[.val (.int p1), .val (.int p2), .val (.int p3), .val (.int p4), .val (.int p5), .val (.int p6), .val (.int sel), .val (.long la), .second, .val (.long lb), .second, .val (.long lc), .second, .val (.long lx), .second, .val (.long ly), .second, .val (.ref b1), .val (.ref b2), .val (.long ((la + (lb * lx)) + (lc * ly))), .second, .unset, .unset] [])) _
      refine XS.aload X48.here hx rfl (hb hby at_154) rfl rfl ?_
      show Steps p.tables e below (T48.setTop (mkF m 156 #[.val (.int p1), .val (.int p2), .val (.int p3), .val (.int p4), .val (.int p5), .val (.int p6), .val (.int sel), .val (.long la), .second, .val (.long lb), .second, .val (.long lc), .second, .val (.long lx), .second, .val (.long ly), .second, .val (.ref b1), .val (.ref b2), .val (.long ((la + (lb * lx)) + (lc * ly))), .second, .unset, .unset] [(.ref b1)])) _
      refine XS.aload X48.here hx rfl (hb hby at_156) rfl rfl ?_
      exact Steps.refl _
    obtain ⟨_, _, ⟨T51, L51, k51, n51⟩, -, X51, ⟨Lc51, hQ51, l51, y51, z51⟩, st51⟩ := Jvm.LawKit.callS X48 hx (y := (⟨"com/example/polytome/polytome/benchmark/LogLikelihood", "score", "([D[D)D"⟩ : MethodName)) hown (mvT hZ (hw _ (List.mem_of_getElem? (i := 3) rfl))) (mvT hZ (hw _ (List.mem_of_getElem? (i := 4) rfl))) (mvT hZ (hw _ (List.mem_of_getElem? (i := 5) rfl))) (mvT hZ (hw _ (List.mem_of_getElem? (i := 6) rfl))) (by decide) (backOf (W := 0) (rm1_2 l Z a0 hw [] b1 b2 (FP.l2d la) (FP.l2d lb) (FP.l2d lc) (FP.l2d lx) (FP.l2d ly) la.toInt lb.toInt lc.toInt lx.toInt ly.toInt h48 n0 Z48 G48_b1 GB yla ylb ylc ylx yly bla blb blc blx bly) hZ (hw _ (List.mem_of_getElem? (i := 6) rfl)) (hw _ (List.mem_of_getElem? (i := 5) rfl)) (by decide) (by decide)) (g := (mkF m 158 #[.val (.int p1), .val (.int p2), .val (.int p3), .val (.int p4), .val (.int p5), .val (.int p6), .val (.int sel), .val (.long la), .second, .val (.long lb), .second, .val (.long lc), .second, .val (.long lx), .second, .val (.long ly), .second, .val (.ref b1), .val (.ref b2), .val (.long ((la + (lb * lx)) + (lc * ly))), .second, .unset, .unset] [(.ref b2), (.ref b1)])) rfl (by rw [hml]; rfl) (argsL := [(.ref b1), (.ref b2)]) (rest := []) (lenOf pd_0 rfl) rfl (by show 2 * 0 + _ ≤ _; exact Nat.le_of_eq rfl) (hb hby at_158) (fun _ _ => ⟨rfl, e48, (by decide : ((0 + 1) + 1) + 0 ≤ _), (by decide : ((0 + 3) + 2) + 0 ≤ _)⟩)
    dsimp only [Pt.U, Pt.locs, Pt.cells, Pt.slots] at X51 l51 y51 z51 st51 hQ51
    subst l51 y51 z51
    obtain ⟨w9, rfl, yw, Nq51, e51⟩ := hQ51
    have N51 := Fr.app N48 Nq51
    have r52 : Steps p.tables e below S0 (T51.setTop (mkF m 161 #[.val (.int p1), .val (.int p2), .val (.int p3), .val (.int p4), .val (.int p5), .val (.int p6), .val (.int sel), .val (.long la), .second, .val (.long lb), .second, .val (.long lc), .second, .val (.long lx), .second, .val (.long ly), .second, .val (.ref b1), .val (.ref b2), .val (.long ((la + (lb * lx)) + (lc * ly))), .second, .unset, .unset] [(.double w9)])) := r50.trans (st51 _ (Steps.refl _))
    have r53 : Steps p.tables e below S0 (T51.setTop (mkF m 177 #[.val (.int p1), .val (.int p2), .val (.int p3), .val (.int p4), .val (.int p5), .val (.int p6), .val (.int sel), .val (.long la), .second, .val (.long lb), .second, .val (.long lc), .second, .val (.long lx), .second, .val (.long ly), .second, .val (.ref b1), .val (.ref b2), .val (.long ((la + (lb * lx)) + (lc * ly))), .second, .val (.double w9), .second] [(.int (1 : Int32))])) := by
      refine r52.trans ?_
      show Steps p.tables e below (T51.setTop (mkF m 161 #[.val (.int p1), .val (.int p2), .val (.int p3), .val (.int p4), .val (.int p5), .val (.int p6), .val (.int sel), .val (.long la), .second, .val (.long lb), .second, .val (.long lc), .second, .val (.long lx), .second, .val (.long ly), .second, .val (.ref b1), .val (.ref b2), .val (.long ((la + (lb * lx)) + (lc * ly))), .second, .unset, .unset] [(.double w9)])) _
      refine XS.dstore X51.here hx rfl (hb hby at_161) rfl (l' := #[.val (.int p1), .val (.int p2), .val (.int p3), .val (.int p4), .val (.int p5), .val (.int p6), .val (.int sel), .val (.long la), .second, .val (.long lb), .second, .val (.long lc), .second, .val (.long lx), .second, .val (.long ly), .second, .val (.ref b1), .val (.ref b2), .val (.long ((la + (lb * lx)) + (lc * ly))), .second, .val (.double w9), .second]) rfl ?_
      show Steps p.tables e below (T51.setTop (mkF m 163 #[.val (.int p1), .val (.int p2), .val (.int p3), .val (.int p4), .val (.int p5), .val (.int p6), .val (.int sel), .val (.long la), .second, .val (.long lb), .second, .val (.long lc), .second, .val (.long lx), .second, .val (.long ly), .second, .val (.ref b1), .val (.ref b2), .val (.long ((la + (lb * lx)) + (lc * ly))), .second, .val (.double w9), .second] [])) _
      refine XS.dload X51.here hx rfl (hb hby at_163) rfl ?_
      show Steps p.tables e below (T51.setTop (mkF m 165 #[.val (.int p1), .val (.int p2), .val (.int p3), .val (.int p4), .val (.int p5), .val (.int p6), .val (.int sel), .val (.long la), .second, .val (.long lb), .second, .val (.long lc), .second, .val (.long lx), .second, .val (.long ly), .second, .val (.ref b1), .val (.ref b2), .val (.long ((la + (lb * lx)) + (lc * ly))), .second, .val (.double w9), .second] [(.double w9)])) _
      refine XS.lload X51.here hx rfl (hb hby at_165) rfl ?_
      show Steps p.tables e below (T51.setTop (mkF m 167 #[.val (.int p1), .val (.int p2), .val (.int p3), .val (.int p4), .val (.int p5), .val (.int p6), .val (.int sel), .val (.long la), .second, .val (.long lb), .second, .val (.long lc), .second, .val (.long lx), .second, .val (.long ly), .second, .val (.ref b1), .val (.ref b2), .val (.long ((la + (lb * lx)) + (lc * ly))), .second, .val (.double w9), .second] [(.long ((la + (lb * lx)) + (lc * ly))), (.double w9)])) _
      refine XS.l2dS X51.here hx rfl (hb hby at_167) rfl rfl ?_
      show Steps p.tables e below (T51.setTop (mkF m 168 #[.val (.int p1), .val (.int p2), .val (.int p3), .val (.int p4), .val (.int p5), .val (.int p6), .val (.int sel), .val (.long la), .second, .val (.long lb), .second, .val (.long lc), .second, .val (.long lx), .second, .val (.long ly), .second, .val (.ref b1), .val (.ref b2), .val (.long ((la + (lb * lx)) + (lc * ly))), .second, .val (.double w9), .second] [(.double (FP.l2d ((la + (lb * lx)) + (lc * ly)))), (.double w9)])) _
      refine XS.dcmpS X51.here hx rfl (hb hby at_168) rfl (show cmpValue (FP.dcmp w9 (FP.l2d ((la + (lb * lx)) + (lc * ly)))) .l = (0 : Int32) from (by rw [yw.cmpV ((Dy.l2d (by rw [hex]; omega)).cast hex rfl)]; simp)) ?_
      show Steps p.tables e below (T51.setTop (mkF m 169 #[.val (.int p1), .val (.int p2), .val (.int p3), .val (.int p4), .val (.int p5), .val (.int p6), .val (.int sel), .val (.long la), .second, .val (.long lb), .second, .val (.long lc), .second, .val (.long lx), .second, .val (.long ly), .second, .val (.ref b1), .val (.ref b2), .val (.long ((la + (lb * lx)) + (lc * ly))), .second, .val (.double w9), .second] [(.int (0 : Int32))])) _
      refine XS.ifNo X51.here hx rfl (hb hby at_169) rfl ((if0 _ _).trans (teq rfl).2) ?_
      show Steps p.tables e below (T51.setTop (mkF m 172 #[.val (.int p1), .val (.int p2), .val (.int p3), .val (.int p4), .val (.int p5), .val (.int p6), .val (.int sel), .val (.long la), .second, .val (.long lb), .second, .val (.long lc), .second, .val (.long lx), .second, .val (.long ly), .second, .val (.ref b1), .val (.ref b2), .val (.long ((la + (lb * lx)) + (lc * ly))), .second, .val (.double w9), .second] [])) _
      refine XS.iconst X51.here hx rfl (hb hby at_172) ?_
      show Steps p.tables e below (T51.setTop (mkF m 173 #[.val (.int p1), .val (.int p2), .val (.int p3), .val (.int p4), .val (.int p5), .val (.int p6), .val (.int sel), .val (.long la), .second, .val (.long lb), .second, .val (.long lc), .second, .val (.long lx), .second, .val (.long ly), .second, .val (.ref b1), .val (.ref b2), .val (.long ((la + (lb * lx)) + (lc * ly))), .second, .val (.double w9), .second] [(.int (1 : Int32))])) _
      refine XS.goto X51.here hx rfl (pc0 := 173) (pc' := 177) rfl (hb hby at_173) (by decide) (by decide) ?_
      exact Steps.refl _
    obtain ⟨fs, hr, hrun, hended, hW, hsame⟩ := X51.leave (v := some (.int (1 : Int32))) (fun h => by rw [Bd.returns] at h; cases h)
    refine ⟨_, _, pre0 _ ?_, hrun, hended, _, _, rfl, ?_, ⟨_, rfl⟩, hW, hsame.mono (by decide) (by decide)⟩
    · rw [← hS0]
      refine r53.trans ?_
      show Steps p.tables e below (T51.setTop (mkF m 177 #[.val (.int p1), .val (.int p2), .val (.int p3), .val (.int p4), .val (.int p5), .val (.int p6), .val (.int sel), .val (.long la), .second, .val (.long lb), .second, .val (.long lc), .second, .val (.long lx), .second, .val (.long ly), .second, .val (.ref b1), .val (.ref b2), .val (.long ((la + (lb * lx)) + (lc * ly))), .second, .val (.double w9), .second] [(.int (1 : Int32))])) _
      exact retB X51 hx Bd.returns (by first | exact Or.inr rfl | exact Or.inl rfl | (split <;> simp)) (hb hby at_177) hr
    · exact ⟨rfl, N51⟩
set_option maxRecDepth 65536 in
set_option maxHeartbeats 40000000 in
theorem comes_1 {Post : Tables → Env → Array Value → State → Outcome → State → Prop} (hpost : ∀ tb e args s v u, (limb_1_1.after args s (.returned v) u = true ∧ limb_1_2.after args s (.returned v) u = true ∧ True) → FrameEnd s (.returned v) u (Jvm.fieldLocs frame_1_writes args s ++ Jvm.arrayLocs frame_1_arrays args s ++ Jvm.staticLocs frame_1_statics s) 16 128 → Post tb e args s (.returned v) u) :
    ArmFor flags0 classFile x code maxLocals ret World_1 tables_1 room_1 Calls_1 rest_1 Pre_1 Post := by
  intro l hfl _ _ p e ha hc hk s m args below hf hA hF happ hP
  obtain ⟨hcalls, hrest, hpre⟩ := hP
  obtain ⟨-, -, -, hnamed, -, -, -, hat⟩ := (Spec.applies_iff hf).mp happ
  obtain ⟨hg, hn⟩ := and_e (Cond.before_iff.mp (show (Jvm.Cond.and given_1 narrow_1).before args s = true from hpre))
  obtain ⟨g0, hg⟩ := and_e hg
  obtain ⟨ga0, hg⟩ := and_e hg
  obtain ⟨ga1, hg⟩ := and_e hg
  obtain ⟨ga2, hg⟩ := and_e hg
  obtain ⟨ga3, hg⟩ := and_e hg
  obtain ⟨ga4, hg⟩ := and_e hg
  have ga5 := hg
  obtain ⟨w0, w1, w2, w3, w4, w5, rfl⟩ : ∃ w0 w1 w2 w3 w4 w5 : Value, args = #[w0, w1, w2, w3, w4, w5] := by
    have hs : args.size = 6 := by simpa [Cond.value, given_1] using g0
    obtain ⟨L⟩ := args
    match L, hs with
    | [w0, w1, w2, w3, w4, w5], _ => exact ⟨w0, w1, w2, w3, w4, w5, rfl⟩
  have hw := fun d (hd : d ∈ tables_1) => atoms_spec (ws := Jvm.Cond.code x code maxLocals ret :: tables_1) hat d (List.mem_cons_of_mem _ hd)
  have hfit : Fit s := fun {y c} hc i hi => by
    obtain ⟨ha, rfl⟩ := Array.getElem?_eq_some_iff.mp hc
    have q := List.all_eq_true.mp ((Array.all_eq_true_iff_forall_mem.mp hF) _ (Array.getElem_mem ha)) i (List.mem_range.mpr hi)
    simpa [Array.getElem?_eq_getElem hi] using q
  obtain ⟨i0, ei0⟩ := is_v ga0
  obtain rfl : w0 = (.int i0) := Option.some.inj ei0
  obtain ⟨i1, ei1⟩ := is_v ga1
  obtain rfl : w1 = (.int i1) := Option.some.inj ei1
  obtain ⟨i2, ei2⟩ := is_v ga2
  obtain rfl : w2 = (.int i2) := Option.some.inj ei2
  obtain ⟨i3, ei3⟩ := is_v ga3
  obtain rfl : w3 = (.int i3) := Option.some.inj ei3
  obtain ⟨i4, ei4⟩ := is_v ga4
  obtain rfl : w4 = (.int i4) := Option.some.inj ei4
  obtain ⟨i5, ei5⟩ := is_v ga5
  obtain rfl : w5 = (.int i5) := Option.some.inj ei5
  obtain ⟨n, o, h1, h2, h3, _, L, rfl, ⟨rfl, N⟩, hq⟩ := rm0 l s _ hw tables_1 i0 i1 i2 i3 i4 i5 s.heap s.heap.size (Nat.le_refl _)  p e ha hc hk s m _ below hf ((Spec.applies_iff_loose hf).mp happ).1 ⟨rfl, State.Warmed39.refl s, rfl⟩ trivial
  refine ⟨n, _, h1, h2, h3, hpost _ _ _ _ _ _ ⟨Cond.after_iff.mpr rfl, Cond.after_iff.mpr (eq_i res_at (Term.int_eval (1)) rfl), trivial⟩ ⟨hq.1, hq.2.1, (hq.2.2.sift fun y hy => Or.inr (N y hy)).mono (by decide) (by decide)⟩⟩
theorem main_1_1 : Claimed_1_1 := comes_1 fun _ _ _ _ _ _ h hF => ⟨h.1, hF⟩
theorem main_1_2 : Claimed_1_2 := comes_1 fun _ _ _ _ _ _ h hF => ⟨h.2.1, hF⟩
end Jvm.Pilot.@@N@@
namespace Jvm.Pilot.@@N@@
open Jvm Jvm.ClassFile Sem Op Lib Jvm.Free Jvm.Stand Jvm.Pilot.@@N@@.Jvm.D
/-! MADE BY PROGRAM (witnessworld.py) out of the Statement's table words and the real class files: 11 classes; the members and pool entries that the words name. The judged class is class 1, her method 1. -/
namespace start1
open Jvm.ClassFile
def u (s : String) : CpInfo := .utf8 (stringToUtf16 s)
/-- a pool by its gaps: so many unusable entries, then the entry; so many at the end -/
def gap : Nat → List CpInfo → List CpInfo
  | 0, r => r
  | n + 1, r => .unusable :: gap n r
def poolList (es : List (Nat × CpInfo)) (last : Nat) : List CpInfo := es.foldr (fun e r => gap e.1 (e.2 :: r)) (gap last [])
def pool (es : List (Nat × CpInfo)) (last : Nat) : Array CpInfo := ⟨poolList es last⟩
def fileOf (pool : Array CpInfo) (this : Nat) (attrs : Array Attribute := #[]) (ms : Array MethodInfo := #[]) (fl : Nat := 33) (sup : Nat := 0) (ifs : Array Nat := #[]) (fds : Array FieldInfo := #[]) : ClassFile where
  minorVersion := 0
  majorVersion := 65
  constantPool := pool
  accessFlags := fl
  thisClass := this
  superClass := sup
  interfaces := ifs
  fields := fds
  methods := ms
  attributes := attrs
def plain (name : String) (sup : Option ClassId) : Class where
  name := name
  kind := .ordinary
  loader := none
  accessFlags := 33
  super := sup
  interfaces := #[]
  cf := none
  fields := #[]
  methods := #[]
  instanceTypes := #[]
  staticTypes := #[]
  resolved := #[]
  callSites := []
  init := .initialized
  statics := none
  mirror := none

def pool0 : Array CpInfo := pool [(5, u "<init>"), (0, u "()V"), (1, .class_ 10), (1, u "java/lang/Object")] 113

def k0m0 : Method := { name := "<init>", desc := "()V", sig := { parameters := [], returnType := none }, accessFlags := 1, code := none }
/-- java/lang/Object -/
def k0 : Class := { plain "java/lang/Object" none with
  accessFlags := 33
  interfaces := #[]
  cf := some (fileOf pool0 8 #[] #[{ accessFlags := 1, nameIndex := 5, descriptorIndex := 6, attributes := #[] }] 33 0 #[] #[])
  fields := #[]
  methods := #[k0m0]
  instanceTypes := #[]
  staticTypes := #[]
  resolved := Array.replicate 124 none
  statics := none }

def pool1 : Array CpInfo := pool [(2, .class_ 4), (1, u "java/lang/Object"), (0, u "<init>"), (0, u "()V"), (0, .integer 2147483647), (0, .integer 1048576), (0, .methodref 10 11), (0, .class_ 12), (0, .nameAndType 13 14), (0, u "com/example/polytome/polytome/benchmark/LogLikelihood"), (0, u "score"), (0, u "([D[D)D"), (0, .class_ 16), (0, u "com/example/polytome/polytome/benchmark/LogLikelihoodScorePinLaw"), (2, u "law"), (0, u "(IIIIII)Z")] 5

def k1m0 : Method := { name := "<init>", desc := "()V", sig := { parameters := [], returnType := none }, accessFlags := 2, code := none }
def k1c1 : Code := { maxStack := 6, maxLocals := 23, code := code, exceptionTable := #[], attributes := #[] }
def k1m1 : Method := { name := "law", desc := "(IIIIII)Z", sig := { parameters := [.int, .int, .int, .int, .int, .int], returnType := some .boolean }, accessFlags := 9, code := some k1c1 }
/-- com/example/polytome/polytome/benchmark/LogLikelihoodScorePinLaw -/
def k1 : Class := { plain "com/example/polytome/polytome/benchmark/LogLikelihoodScorePinLaw" (some 0) with
  accessFlags := 49
  interfaces := #[]
  cf := some (fileOf pool1 15 #[] #[{ accessFlags := 2, nameIndex := 5, descriptorIndex := 6, attributes := #[] }, { accessFlags := 9, nameIndex := 19, descriptorIndex := 20, attributes := #[] }] 49 2 #[] #[])
  fields := #[]
  methods := #[k1m0, k1m1]
  instanceTypes := #[]
  staticTypes := #[]
  resolved := Array.replicate 26 none
  statics := none }

def pool2 : Array CpInfo := pool [(2, .class_ 4), (1, u "java/lang/Object"), (0, u "<init>"), (0, u "()V"), (1, .class_ 10), (1, u "com/example/polytome/polytome/benchmark/LogLikelihood"), (0, u "score"), (0, u "([D[D)D")] 26

def k2m0 : Method := { name := "<init>", desc := "()V", sig := { parameters := [], returnType := none }, accessFlags := 2, code := none }
def k2c1 : Code := { maxStack := 6, maxLocals := 5, code := prog_2_method_3_code, exceptionTable := #[], attributes := #[] }
def k2m1 : Method := { name := "score", desc := "([D[D)D", sig := { parameters := [(.array .double), (.array .double)], returnType := some .double }, accessFlags := 8, code := some k2c1 }
/-- com/example/polytome/polytome/benchmark/LogLikelihood -/
def k2 : Class := { plain "com/example/polytome/polytome/benchmark/LogLikelihood" (some 0) with
  accessFlags := 48
  interfaces := #[]
  cf := some (fileOf pool2 8 #[] #[{ accessFlags := 2, nameIndex := 5, descriptorIndex := 6, attributes := #[] }, { accessFlags := 8, nameIndex := 11, descriptorIndex := 12, attributes := #[] }] 48 2 #[] #[])
  fields := #[]
  methods := #[k2m0, k2m1]
  instanceTypes := #[]
  staticTypes := #[]
  resolved := Array.replicate 39 none
  statics := none }

def pool3 : Array CpInfo := pool [(1, u "java/lang/Cloneable"), (0, .class_ 1), (0, u "java/lang/Object"), (0, .class_ 3)] 3

/-- java/lang/Cloneable -/
def k3 : Class := { plain "java/lang/Cloneable" (some 0) with
  accessFlags := 1537
  interfaces := #[]
  cf := some (fileOf pool3 2 #[] #[] 1537 4 #[] #[])
  fields := #[]
  methods := #[]
  instanceTypes := #[]
  staticTypes := #[]
  resolved := Array.replicate 8 none
  statics := none }

def pool4 : Array CpInfo := pool [(1, u "java/io/Serializable"), (0, .class_ 1), (0, u "java/lang/Object"), (0, .class_ 3)] 3

/-- java/io/Serializable -/
def k4 : Class := { plain "java/io/Serializable" (some 0) with
  accessFlags := 1537
  interfaces := #[]
  cf := some (fileOf pool4 2 #[] #[] 1537 4 #[] #[])
  fields := #[]
  methods := #[]
  instanceTypes := #[]
  staticTypes := #[]
  resolved := Array.replicate 8 none
  statics := none }

/-- the primitive byte -/
def k5 : Class := { plain "byte" none with kind := .primitive 'B', accessFlags := 0x411 }
/-- [B -/
def k6 : Class := { plain "[B" (some 0) with kind := .array 5 .byte, interfaces := #[3, 4], accessFlags := 1041 }

/-- the primitive double -/
def k7 : Class := { plain "double" none with kind := .primitive 'D', accessFlags := 0x411 }
/-- [D -/
def k8 : Class := { plain "[D" (some 0) with kind := .array 7 .double, interfaces := #[3, 4], accessFlags := 1041 }

/-- the primitive int -/
def k9 : Class := { plain "int" none with kind := .primitive 'I', accessFlags := 0x411 }
/-- [I -/
def k10 : Class := { plain "[I" (some 0) with kind := .array 9 .int, interfaces := #[3, 4], accessFlags := 1041 }

def heap : Heap := #[]
def classes : Array Class := #[k0, k1, k2, k3, k4, k5, k6, k7, k8, k9, k10]
def interned : List (Array UInt16 × Addr) := []
def slotsUsed : Nat := 0
def theMethod : MethodId := ⟨1, 1⟩
def args0 : Array Value := #[.int 5, .int 5, .int 5, .int 5, .int 5, .int 5]
def aboutOver (below : List Frame) : State where
  vm := { classes := classes, interned := interned.toArray }
  heap := heap
  slotsUsed := slotsUsed
  threads := #[{ frames := .invoking theMethod args0 :: below }]
def below0 : List Frame := [.native { method := ⟨0, 0⟩, args := #[] }]
def about1 : State := aboutOver below0
def p0 : Program := .bare "" "" ""
def e0 : Env := launch0.env 0 0 0
theorem w_frames : about1.frames = Frame.invoking theMethod args0 :: below0 := rfl
set_option maxRecDepth 65536 in
theorem w_args : argsFit about1.vm theMethod args0 = true := by decide +kernel
set_option maxRecDepth 65536 in
theorem w_heap : heapFits about1 = true := by decide +kernel
set_option maxRecDepth 65536 in
theorem w_runnable : about1.curStatus? = some .runnable := by decide +kernel
set_option maxRecDepth 65536 in
theorem w_alone : about1.alone = true := by decide +kernel
set_option maxRecDepth 65536 in
theorem w_named : about1.methodNamed? x = some theMethod := by decide +kernel
set_option maxRecDepth 65536 in
theorem w_hears : about1.hears theMethod below0 = true := by decide +kernel
set_option maxRecDepth 65536 in
theorem w_ripe : about1.ripe theMethod args0 below0 = true := by decide +kernel
theorem w_running : about1.status = .running := rfl
set_option maxRecDepth 65536 in
theorem w_room : about1.hasRoom e0.platform room_1 = true :=
  launch0.hasRoom_least _ room_1 (by decide +kernel) (by decide +kernel) (by decide +kernel) (by decide +kernel) (by decide +kernel) (by decide +kernel)
theorem allAtoms_all (ts : List Jvm.Cond) (a : Array Jvm.Value) (st : Jvm.State) : (allAtoms ts).before a st = ts.all (fun c => c.before a st) := by
  induction ts with
  | nil => rfl
  | cons c t ih =>
    show (Jvm.Cond.and c (allAtoms t)).before a st = _
    rw [Jvm.Cond.before_and, ih, List.all_cons]
def words1 : List Jvm.Cond := Jvm.Cond.code x code maxLocals ret :: tables_1
/-- a 'code' word, met by the world's own term for the bytes: nothing is compared byte by byte -/
theorem code_word {y : MethodName} {bytes : ByteArray} {mx : Nat} {rt : Option FieldType} {a : Array Value} {s : State} {m : MethodId} {meth : Method} {c : Code} (h1 : s.methodNamed? y = some m) (h2 : s.vm.method? m = some meth) (h3 : meth.code = some c) (h4 : c.code = bytes)
    (h5 : (c.maxLocals == mx && c.exceptionTable.isEmpty && decide (c.maxStack ≤ mostOperands) && decide (meth.sig.returnType = rt) && !meth.locks && decide (parseMethodDescriptor y.desc = some meth.sig)) = true) : (Jvm.Cond.code y bytes mx rt).before a s = true := by
  simp only [Bool.and_eq_true, beq_iff_eq, Bool.not_eq_true', decide_eq_true_eq] at h5
  obtain ⟨⟨⟨⟨⟨g1, g2⟩, g3⟩, g4⟩, g5⟩, g6⟩ := h5
  simp [Cond.before, Cond.holds, Cond.value, h1, h2, h3, h4, g1, g2, g3, g4, g5, g6]
def isCode : Jvm.Cond → Bool
  | .code _ _ _ _ => true
  | _ => false
theorem all_split {L : List Jvm.Cond} {P : Jvm.Cond → Bool} (h1 : L.all (fun c => isCode c || P c) = true) (h2 : ∀ c ∈ L.filter isCode, P c = true) : L.all P = true := by
  refine List.all_eq_true.mpr fun c hc => ?_
  have h := List.all_eq_true.mp h1 c hc
  rcases Bool.eq_false_or_eq_true (isCode c) with hi | hi
  · exact h2 c (List.mem_filter.mpr ⟨hc, hi⟩)
  · simpa [hi] using h
set_option maxRecDepth 65536 in
theorem w_c0 : (Jvm.Cond.code x code maxLocals ret).before args0 about1 = true := code_word (m := ⟨1, 1⟩) (meth := k1m1) (c := k1c1) (by decide +kernel) rfl rfl rfl (by decide +kernel)
set_option maxRecDepth 65536 in
theorem w_c1 : (Jvm.Cond.code ({ cls := "com/example/polytome/polytome/benchmark/LogLikelihood", name := "score", desc := "([D[D)D" } : Jvm.MethodName) prog_2_method_3_code (5 : Nat) (Option.some Jvm.ClassFile.FieldType.double)).before args0 about1 = true := code_word (m := ⟨2, 1⟩) (meth := k2m1) (c := k2c1) (by decide +kernel) rfl rfl rfl (by decide +kernel)
def codes1 : List Jvm.Cond := [Jvm.Cond.code x code maxLocals ret, Jvm.Cond.code ({ cls := "com/example/polytome/polytome/benchmark/LogLikelihood", name := "score", desc := "([D[D)D" } : Jvm.MethodName) prog_2_method_3_code (5 : Nat) (Option.some Jvm.ClassFile.FieldType.double)]
set_option maxRecDepth 65536 in
theorem codes_eq : words1.filter isCode = codes1 := rfl
theorem w_codes : ∀ c ∈ words1.filter isCode, c.before args0 about1 = true := by
  rw [codes_eq]
  intro c hc
  simp only [codes1, List.mem_cons, List.not_mem_nil, or_false] at hc
  rcases hc with rfl | rfl
  · exact w_c0
  · exact w_c1
set_option maxRecDepth 65536 in
theorem w_t1 : words1.all (fun c => isCode c || c.before args0 about1) = true := by decide +kernel
theorem w_tables : (allAtoms (Jvm.Cond.code x code maxLocals ret :: tables_1)).before args0 about1 = true := by
  rw [allAtoms_all]
  show words1.all (fun c => c.before args0 about1) = true
  refine all_split ?_ w_codes
  rw [w_t1]
set_option maxRecDepth 65536 in
theorem w_case : (Jvm.Cond.and given_1 narrow_1).before args0 about1 = true := by decide +kernel
theorem w_applies : (headSpec (Jvm.Cond.code x code maxLocals ret :: tables_1) room_1).applies x e0.platform about1 = true :=
  (Spec.applies_iff w_frames).mpr ⟨w_running, w_runnable, w_alone, w_named, w_hears, w_ripe, w_room, w_tables⟩
theorem atStart : AtStart classFile x code maxLocals ret World_1 tables_1 room_1 Calls_1 rest_1 Pre_1 launch0 p0 e0 about1 theMethod args0 below0 :=
  ⟨lists_1, trivial, launch0.admits_env _ _ _, launch0.least_env, fairChoices_fair.cas, fairChoices_fair.clock, w_frames, w_args, w_heap, w_applies, trivial, trivial, w_case⟩
end start1
theorem witness_1 : WitnessClaimed_1 := ⟨start1.p0, start1.e0, start1.about1, start1.theMethod, start1.args0, start1.below0, start1.atStart⟩
end Jvm.Pilot.@@N@@
