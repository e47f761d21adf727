import JvmDerived
import JvmDerived.Pilot.@@N@@Statement
import JvmDerived.Pilot.@@N@@Code
set_option linter.unusedVariables false
set_option linter.unusedSimpArgs false
namespace Jvm.OwnF
open Jvm.FP Jvm.Free.Fl
/-! Exact dyadic arithmetic on doubles: Dy i k u says that the double u is the number i / 2^k. -/
/-- the datum times 2^k -/
def sh (k : Int) : Core.Datum → Core.Datum
  | .nan => .nan
  | .inf s => .inf s
  | .fin s c q => .fin s c (q + k)
def Dy (i : Int) (k : Nat) (u : UInt64) : Prop := Core.Whole i (sh k (Core.val64 u))
theorem ifc3 {α : Type} {p q : Prop} [Decidable p] [Decidable q] {a b c d : α} (h : p ↔ q) (h1 : a = c) (h2 : b = d) : (if p then a else b) = (if q then c else d) := by
  subst h1 h2
  by_cases hp : p
  · rw [if_pos hp, if_pos (h.mp hp)]
  · rw [if_neg hp, if_neg (fun z => hp (h.mpr z))]
theorem mpos {a b : Int} (hb : 0 < b) : 0 < a * b ↔ 0 < a := by
  constructor
  · intro h
    refine Int.lt_of_not_ge fun hle => ?_
    have q := Int.mul_le_mul_of_nonneg_right hle (Int.le_of_lt hb)
    rw [Int.zero_mul] at q
    omega
  · intro h
    exact Int.mul_pos h hb
theorem sh_zero (d : Core.Datum) : sh ((0 : Nat) : Int) d = d := by
  cases d with
  | nan => rfl
  | inf s => rfl
  | fin s c q => show Core.Datum.fin s c (q + ((0 : Nat) : Int)) = _; rw [show q + ((0 : Nat) : Int) = q by omega]
theorem sh_neg (k : Int) (d : Core.Datum) : Core.negate (sh k d) = sh k (Core.negate d) := by cases d <;> rfl
theorem sh_sum (k : Int) (x y : Core.Datum) : Core.exactSum (sh k x) (sh k y) = sh k (Core.exactSum x y) := by
  cases x with
  | nan => cases y <;> rfl
  | inf s =>
    cases y with
    | nan => rfl
    | inf t => show (if s = t then Core.Datum.inf s else .nan) = sh k (if s = t then Core.Datum.inf s else .nan); split <;> rfl
    | fin t d r => rfl
  | fin s c q =>
    cases y with
    | nan => rfl
    | inf t => rfl
    | fin t d r =>
      have hm : min (q + k) (r + k) = min q r + k := by omega
      have hu : Core.sumUnits s c (q + k) t d (r + k) (min (q + k) (r + k)) = Core.sumUnits s c q t d r (min q r) := by
        rw [hm]
        unfold Core.sumUnits Core.inUnits
        rw [show q + k - (min q r + k) = q - min q r by omega, show r + k - (min q r + k) = r - min q r by omega]
      show Core.Datum.fin (Core.sumSign s t (Core.sumUnits s c (q + k) t d (r + k) (min (q + k) (r + k)))) (Core.sumUnits s c (q + k) t d (r + k) (min (q + k) (r + k))).natAbs (min (q + k) (r + k)) = Core.Datum.fin (Core.sumSign s t (Core.sumUnits s c q t d r (min q r))) (Core.sumUnits s c q t d r (min q r)).natAbs (min q r + k)
      rw [hu, hm]
theorem sh_prod (j k : Int) (x y : Core.Datum) : Core.exactProduct (sh j x) (sh k y) = sh (j + k) (Core.exactProduct x y) := by
  cases x with
  | nan => cases y <;> rfl
  | inf s =>
    cases y with
    | nan => rfl
    | inf t => rfl
    | fin t d r => show (if d = 0 then Core.Datum.nan else .inf (s != t)) = sh (j + k) (if d = 0 then Core.Datum.nan else .inf (s != t)); split <;> rfl
  | fin s c q =>
    cases y with
    | nan => rfl
    | inf t => show (if c = 0 then Core.Datum.nan else .inf (s != t)) = sh (j + k) (if c = 0 then Core.Datum.nan else .inf (s != t)); split <;> rfl
    | fin t d r => show Core.Datum.fin (s != t) (c * d) (q + j + (r + k)) = Core.Datum.fin (s != t) (c * d) (q + r + (j + k)); rw [show q + j + (r + k) = q + r + (j + k) by omega]
theorem sh_order (k : Int) (x y : Core.Datum) : Core.order (sh k x) (sh k y) = Core.order x y := by
  cases x with
  | nan => cases y <;> rfl
  | inf s => cases y <;> rfl
  | fin s c q =>
    cases y with
    | nan => rfl
    | inf t => rfl
    | fin t d r =>
      have hm : min (q + k) (r + k) = min q r + k := by omega
      show some (compare (Core.signed s (Core.inUnits c (q + k) (min (q + k) (r + k)))) (Core.signed t (Core.inUnits d (r + k) (min (q + k) (r + k))))) = some (compare (Core.signed s (Core.inUnits c q (min q r))) (Core.signed t (Core.inUnits d r (min q r))))
      unfold Core.inUnits
      rw [hm, show q + k - (min q r + k) = q - min q r by omega, show r + k - (min q r + k) = r - min q r by omega]
theorem sgn_whole {i : Int} {s : Bool} {c : Nat} {q : Int} (h : Core.Whole i (.fin s c q)) : Core.signed s i.natAbs = i := by
  by_cases hi0 : i = 0
  · rw [hi0]; exact Core.signed_zero s
  · rw [Core.whole_sign h hi0]
    unfold Core.signed
    by_cases h : i < 0 <;> simp [h] <;> omega
/-- n / 2^k, rounded, is exact -/
theorem ratio_exact (s : Bool) {n k : Nat} (hn : n ≤ 2 ^ 53) (hk : k ≤ 1000) : ∃ c q, Core.roundRatio Core.b64 s n 1 (-(k : Int)) = .fin s c q ∧ n * 2 ^ (-(q + k)).toNat = c * 2 ^ (q + k).toNat := by
  by_cases h0 : n = 0
  · subst h0
    exact ⟨0, Core.b64.qmin, rfl, by simp⟩
  · obtain ⟨c', q', hfit, hv⟩ := Core.natFit Core.good_b64 Core.wide_b64 s (n := n) hn
    obtain ⟨f1, f2, f3, f4⟩ := hfit
    have e53 : 2 ^ Core.b64.p = 9007199254740992 := by decide
    have hmin : Core.b64.qmin = -1074 := by decide
    rw [e53] at f1
    rw [Nat.mul_one] at hv
    have hq : -53 < q' := by
      refine Int.lt_of_not_ge fun hle => ?_
      rw [show (q' - 0).toNat = 0 by omega, Nat.pow_zero, Nat.mul_one] at hv
      have h1 : 2 ^ 53 ≤ 2 ^ (0 - q').toNat := Nat.pow_le_pow_right (by decide) (by omega)
      have h2 : 1 * 2 ^ (0 - q').toNat ≤ n * 2 ^ (0 - q').toNat := Nat.mul_le_mul_right _ (by omega)
      have h3 : (2 : Nat) ^ 53 = 9007199254740992 := by decide
      omega
    have ht : Core.b64.tails ≤ c' := f4.resolve_left (by omega)
    have hfit' : Core.fits Core.b64 (.fin s c' (q' - k)) := ⟨by rw [e53]; exact f1, by omega, by omega, Or.inr ht⟩
    refine ⟨c', q' - k, Core.roundRatio_exact Core.good_b64 (by decide) hfit' ?_, ?_⟩
    · rw [Nat.mul_one, show (-(k : Int) - (q' - k)).toNat = (0 - q').toNat by omega, show (q' - k - -(k : Int)).toNat = (q' - 0).toNat by omega]
      exact hv
    · rw [show (-(q' - (k : Int) + k)).toNat = (0 - q').toNat by omega, show (q' - (k : Int) + k).toNat = (q' - 0).toNat by omega]
      exact hv
theorem whole_ratio (s : Bool) {i : Int} {k : Nat} (hs : Core.signed s i.natAbs = i) (hi : i.natAbs ≤ 2 ^ 53) (hk : k ≤ 1000) : Core.Whole i (sh k (Core.roundRatio Core.b64 s i.natAbs 1 (-(k : Int)))) := by
  obtain ⟨c, q, e, hv⟩ := ratio_exact s hi hk
  rw [e]
  show Core.signed s (c * 2 ^ (q + (k : Int)).toNat) = i * ((2 ^ (-(q + (k : Int))).toNat : Nat) : Int)
  rw [← hv, Core.signed_mul, hs]
/-- what i / 2^k rounds to -/
theorem round_eq {i : Int} {k : Nat} {s : Bool} {c : Nat} {q : Int} (h : Core.Whole i (sh k (.fin s c q))) : Core.round Core.b64 (.fin s c q) = Core.roundRatio Core.b64 s i.natAbs 1 (-(k : Int)) := by
  refine Core.roundRatio_congr (by decide) (by decide) ?_
  have h1 := Core.whole_natAbs (show Core.Whole i (.fin s c (q + (k : Int))) from h)
  rw [show (q - -(k : Int)).toNat = (q + (k : Int)).toNat by omega, show (-(k : Int) - q).toNat = (-(q + (k : Int))).toNat by omega, Nat.mul_one, Nat.mul_one]
  exact h1
theorem round_dy {i : Int} {k : Nat} {d : Core.Datum} (h : Core.Whole i (sh k d)) (hi : i.natAbs ≤ 2 ^ 53) (hk : k ≤ 1000) : Core.Whole i (sh k (Core.round Core.b64 d)) := by
  cases d with
  | nan => exact h.elim
  | inf => exact h.elim
  | fin s c q =>
    rw [round_eq h]
    exact whole_ratio s (sgn_whole (show Core.Whole i (.fin s c (q + (k : Int))) from h)) hi hk
theorem Dy.shape {i : Int} {k : Nat} {u : UInt64} (h : Dy i k u) : ∃ s c q, Core.val64 u = .fin s c q := by
  unfold Dy at h
  cases e : Core.val64 u with
  | nan => rw [e] at h; exact h.elim
  | inf s => rw [e] at h; exact h.elim
  | fin s c q => exact ⟨s, c, q, rfl⟩
theorem Dy.ne_nan {i : Int} {k : Nat} {u : UInt64} (h : Dy i k u) : Core.val64 u ≠ .nan := by
  obtain ⟨s, c, q, e⟩ := h.shape
  rw [e]; exact nofun
theorem Dy.noNaN {i : Int} {k : Nat} {u : UInt64} (h : Dy i k u) : NoNaN64 u := val64_no.mpr h.ne_nan
theorem Dy.of_int {i : Int} {u : UInt64} (h : Core.DInt i u) : Dy i 0 u := by
  unfold Dy; rw [sh_zero]; exact h
theorem Dy.add {i j : Int} {k : Nat} {a b : UInt64} (ha : Dy i k a) (hb : Dy j k b) (h : (i + j).natAbs ≤ 2 ^ 53) (hk : k ≤ 1000) : Dy (i + j) k (FP.dadd a b) := by
  unfold Dy
  rw [show Core.val64 (FP.dadd a b) = _ from Core.val64_dadd a b]
  exact round_dy (by rw [← sh_sum]; exact Core.whole_sum ha hb) h hk
theorem Dy.sub {i j : Int} {k : Nat} {a b : UInt64} (ha : Dy i k a) (hb : Dy j k b) (h : (i - j).natAbs ≤ 2 ^ 53) (hk : k ≤ 1000) : Dy (i - j) k (FP.dsub a b) := by
  unfold Dy
  rw [show Core.val64 (FP.dsub a b) = _ from Core.val64_dsub a b]
  exact round_dy (by rw [← sh_sum, ← sh_neg]; exact Core.whole_sum ha (Core.whole_negate hb)) h hk
theorem Dy.mul {i j : Int} {k l : Nat} {a b : UInt64} (ha : Dy i k a) (hb : Dy j l b) (h : (i * j).natAbs ≤ 2 ^ 53) (hk : k + l ≤ 1000) : Dy (i * j) (k + l) (FP.dmul a b) := by
  unfold Dy
  rw [show Core.val64 (FP.dmul a b) = _ from Core.val64_dmul a b]
  exact round_dy (by rw [Int.natCast_add, ← sh_prod]; exact Core.whole_product ha hb) h hk
theorem Dy.cmp {i j : Int} {k : Nat} {a b : UInt64} (ha : Dy i k a) (hb : Dy j k b) : FP.dcmp a b = some (compare i j) := by
  show Core.order (Core.val64 a) (Core.val64 b) = _
  rw [← sh_order k]
  exact Core.order_whole ha hb
theorem Dy.scale {i : Int} {k : Nat} {a : UInt64} (ha : Dy i k a) (j : Nat) : Dy (i * (2 ^ j : Nat)) (k + j) a := by
  obtain ⟨s, c, q, e⟩ := ha.shape
  unfold Dy at ha ⊢
  rw [e] at ha ⊢
  have h1 : Core.Whole ((2 ^ j : Nat) : Int) (.fin false 1 (j : Int)) := by
    show Core.signed false (1 * 2 ^ ((j : Int)).toNat) = ((2 ^ j : Nat) : Int) * ((2 ^ (-(j : Int)).toNat : Nat) : Int)
    rw [show (-(j : Int)).toNat = 0 by omega, show ((j : Int)).toNat = j by omega]
    simp [Core.signed]
  have h2 := Core.whole_product ha h1
  have e2 : Core.exactProduct (sh k (.fin s c q)) (.fin false 1 (j : Int)) = sh ((k + j : Nat) : Int) (.fin s c q) := by
    show Core.Datum.fin (s != false) (c * 1) (q + (k : Int) + (j : Int)) = Core.Datum.fin s c (q + ((k + j : Nat) : Int))
    rw [Nat.mul_one, show (s != false) = s by cases s <;> rfl, show q + (k : Int) + (j : Int) = q + ((k + j : Nat) : Int) by omega]
  rw [e2] at h2
  exact h2
theorem whole_unscale {i : Int} {s : Bool} {c j : Nat} {q : Int} (h : Core.Whole (i * ((2 ^ j : Nat) : Int)) (.fin s c (q + (j : Int)))) : Core.Whole i (.fin s c q) := by
  have h1 : Core.signed s (c * 2 ^ (q + (j : Int)).toNat) = i * ((2 ^ j : Nat) : Int) * ((2 ^ (-(q + (j : Int))).toNat : Nat) : Int) := h
  show Core.signed s (c * 2 ^ q.toNat) = i * ((2 ^ (-q).toNat : Nat) : Int)
  have p2 : ((2 ^ j * 2 ^ (-(q + (j : Int))).toNat : Nat) : Int) ≠ 0 := by
    have := Nat.mul_pos (Nat.two_pow_pos j) (Nat.two_pow_pos (-(q + (j : Int))).toNat); omega
  refine Int.eq_of_mul_eq_mul_right p2 ?_
  have hx : q.toNat + (j + (-(q + (j : Int))).toNat) = (q + (j : Int)).toNat + (-q).toNat := by omega
  calc Core.signed s (c * 2 ^ q.toNat) * ((2 ^ j * 2 ^ (-(q + (j : Int))).toNat : Nat) : Int)
      = Core.signed s (c * 2 ^ (q.toNat + (j + (-(q + (j : Int))).toNat))) := by
        rw [← Core.signed_mul, Nat.pow_add 2 q.toNat, Nat.pow_add 2 j, Nat.mul_assoc c]
    _ = Core.signed s (c * 2 ^ (q + (j : Int)).toNat * 2 ^ (-q).toNat) := by rw [hx, Nat.pow_add, Nat.mul_assoc c]
    _ = i * ((2 ^ j : Nat) : Int) * ((2 ^ (-(q + (j : Int))).toNat : Nat) : Int) * ((2 ^ (-q).toNat : Nat) : Int) := by rw [Core.signed_mul, h1]
    _ = i * ((2 ^ (-q).toNat : Nat) : Int) * ((2 ^ j * 2 ^ (-(q + (j : Int))).toNat : Nat) : Int) := by rw [Int.natCast_mul]; ac_rfl
theorem sh_unscale {i : Int} {k j : Nat} {d : Core.Datum} (h : Core.Whole (i * ((2 ^ j : Nat) : Int)) (sh ((k + j : Nat) : Int) d)) : Core.Whole i (sh k d) := by
  cases d with
  | nan => exact h.elim
  | inf => exact h.elim
  | fin s c q =>
    refine whole_unscale (j := j) ?_
    have e : q + ((k + j : Nat) : Int) = q + (k : Int) + (j : Int) := by omega
    have h' : Core.Whole (i * ((2 ^ j : Nat) : Int)) (.fin s c (q + ((k + j : Nat) : Int))) := h
    rw [e] at h'; exact h'
theorem Dy.unscale {i : Int} {k j : Nat} {u : UInt64} (h : Dy (i * ((2 ^ j : Nat) : Int)) (k + j) u) : Dy i k u := sh_unscale h
theorem Dy.mulTo {i j n : Int} {k l r t : Nat} {a b : UInt64} (ha : Dy i k a) (hb : Dy j l b) (hn : i * j = n * ((2 ^ t : Nat) : Int)) (hr : k + l = r + t) (h : n.natAbs ≤ 2 ^ 53) (hk : r ≤ 1000) : Dy n r (FP.dmul a b) := by
  unfold Dy
  rw [show Core.val64 (FP.dmul a b) = _ from Core.val64_dmul a b]
  refine round_dy (sh_unscale (j := t) ?_) h hk
  have h1 := Core.whole_product ha hb
  rw [sh_prod, hn, ← Int.natCast_add, hr] at h1
  exact h1
theorem Dy.cast {i i' : Int} {k k' : Nat} {a : UInt64} (ha : Dy i k a) (hi : i = i') (hk : k = k') : Dy i' k' a := by subst hi hk; exact ha
theorem Dy.unique {i : Int} {k : Nat} {a b : UInt64} (ha : Dy i k a) (hb : Dy i k b) (hi : i ≠ 0) : a = b := by
  obtain ⟨s, c, q, e⟩ := ha.shape
  obtain ⟨t, d, r, e'⟩ := hb.shape
  refine Core.val64_inj ha.ne_nan ?_
  have f1 := Core.round_of_fits Core.good_b64 (Core.val64_fits a)
  have f2 := Core.round_of_fits Core.good_b64 (Core.val64_fits b)
  have ha' := ha; have hb' := hb
  unfold Dy at ha' hb'
  rw [e] at ha' f1; rw [e'] at hb' f2
  rw [e, e', ← f1, ← f2, round_eq ha', round_eq hb', Core.whole_sign (show Core.Whole i (.fin s c (q + (k : Int))) from ha') hi, Core.whole_sign (show Core.Whole i (.fin t d (r + (k : Int))) from hb') hi]
/-- the quotient of two dyadics, the divisor positive, is the ratio rounded -/
theorem div_val {i j : Int} {k : Nat} {a b : UInt64} (ha : Dy i k a) (hb : Dy j 0 b) (hj : 0 < j) : ∃ s, Core.signed s i.natAbs = i ∧ Core.val64 (FP.ddiv a b) = Core.roundRatio Core.b64 s i.natAbs j.natAbs (-(k : Int)) := by
  obtain ⟨s, c, q, e⟩ := ha.shape
  obtain ⟨t, d, r, e'⟩ := hb.shape
  have ha' := ha; have hb' := hb
  unfold Dy at ha' hb'
  rw [e] at ha'; rw [e', sh_zero] at hb'
  have ha2 : Core.Whole i (.fin s c (q + (k : Int))) := ha'
  have ht : t = false := by rw [Core.whole_sign hb' (by omega)]; simp; omega
  have hd : d ≠ 0 := fun hd => by have := (Core.whole_zero hb').mp hd; omega
  refine ⟨s, sgn_whole ha2, ?_⟩
  rw [show Core.val64 (FP.ddiv a b) = _ from Core.val64_ddiv a b, e, e']
  show (if d = 0 then (if c = 0 then Core.Datum.nan else .inf (s != t)) else Core.roundRatio Core.b64 (s != t) c d (q - r)) = _
  rw [if_neg hd, ht, show (s != false) = s by cases s <;> rfl]
  refine Core.roundRatio_congr (by omega) (by omega) ?_
  have h1 := Core.whole_natAbs ha2
  have h2 := Core.whole_natAbs hb'
  rw [show (q - r - -(k : Int)) = (q + (k : Int)) - r by omega, show (-(k : Int) - (q - r)) = r - (q + (k : Int)) by omega]
  generalize q + (k : Int) = A at h1 ⊢
  generalize i.natAbs = I at h1 ⊢
  generalize j.natAbs = J at h2 ⊢
  refine Nat.eq_of_mul_eq_mul_right (Nat.mul_pos (Nat.two_pow_pos (-A).toNat) (Nat.two_pow_pos r.toNat)) ?_
  have hx : (A - r).toNat + ((-A).toNat + r.toNat) = A.toNat + (-r).toNat + (r - A).toNat := by omega
  calc c * J * 2 ^ (A - r).toNat * (2 ^ (-A).toNat * 2 ^ r.toNat)
      = c * J * 2 ^ ((A - r).toNat + ((-A).toNat + r.toNat)) := by rw [Nat.pow_add, Nat.pow_add]; ac_rfl
    _ = (c * 2 ^ A.toNat) * (J * 2 ^ (-r).toNat) * 2 ^ (r - A).toNat := by rw [hx, Nat.pow_add, Nat.pow_add]; ac_rfl
    _ = (I * 2 ^ (-A).toNat) * (d * 2 ^ r.toNat) * 2 ^ (r - A).toNat := by rw [h1, h2]
    _ = I * d * 2 ^ (r - A).toNat * (2 ^ (-A).toNat * 2 ^ r.toNat) := by ac_rfl
theorem Dy.div {i j m : Int} {k : Nat} {a b : UInt64} (ha : Dy i k a) (hb : Dy j 0 b) (hj : 0 < j) (hm : i = m * j) (h : m.natAbs ≤ 2 ^ 53) (hk : k ≤ 1000) : Dy m k (FP.ddiv a b) := by
  obtain ⟨s, hs, e⟩ := div_val ha hb hj
  unfold Dy
  have hn : i.natAbs = m.natAbs * j.natAbs := by rw [hm, Int.natAbs_mul]
  have e2 : Core.roundRatio Core.b64 s i.natAbs j.natAbs (-(k : Int)) = Core.roundRatio Core.b64 s m.natAbs 1 (-(k : Int)) := by
    refine Core.roundRatio_congr (by omega) (by decide) ?_
    rw [hn, Nat.mul_one]
  rw [e, e2]
  refine whole_ratio s ?_ h hk
  have h3 : Core.signed s i.natAbs = Core.signed s m.natAbs * j := by
    rw [hn, Core.signed_mul, show ((j.natAbs : Nat) : Int) = j by omega]
  rw [hs, hm] at h3
  exact (Int.eq_of_mul_eq_mul_right (by omega) h3).symm
/-- equal ratios, equally rounded -/
theorem div_cmp_eq {i j i' j' : Int} {k k' : Nat} {a b a' b' : UInt64} (ha : Dy i k a) (hb : Dy j 0 b) (hj : 0 < j) (ha' : Dy i' k' a') (hb' : Dy j' 0 b') (hj' : 0 < j') (hk : k ≤ 1000) (hk' : k' ≤ 1000)
    (h : i * j' * (2 ^ k' : Nat) = i' * j * (2 ^ k : Nat)) : FP.dcmp (FP.ddiv a b) (FP.ddiv a' b') = some .eq := by
  by_cases hi : i = 0
  · subst hi
    have hi' : i' = 0 := by
      rw [Int.zero_mul, Int.zero_mul] at h
      have p1 : ((2 ^ k : Nat) : Int) ≠ 0 := by have := Nat.two_pow_pos k; omega
      rcases Int.mul_eq_zero.mp h.symm with q | q
      · rcases Int.mul_eq_zero.mp q with q | q
        · exact q
        · omega
      · exact absurd q p1
    subst hi'
    have d1 := (ha.div hb hj (m := 0) (by omega) (by decide) hk).scale k'
    have d2 := (ha'.div hb' hj' (m := 0) (by omega) (by decide) hk').scale k
    have e2 : k' + k = k + k' := by omega
    rw [Dy.cmp d1 (d2.cast rfl e2)]
    simp [Core.compare_self_int]
  · obtain ⟨s, hs, e⟩ := div_val ha hb hj
    obtain ⟨s', hs', e'⟩ := div_val ha' hb' hj'
    have n1 := congrArg Int.natAbs h
    rw [Int.natAbs_mul, Int.natAbs_mul, Int.natAbs_mul, Int.natAbs_mul, Int.natAbs_natCast, Int.natAbs_natCast] at n1
    have p1 : (0 : Int) < ((2 ^ k : Nat) : Int) := by have := Nat.two_pow_pos k; omega
    have p2 : (0 : Int) < ((2 ^ k' : Nat) : Int) := by have := Nat.two_pow_pos k'; omega
    have hss : s = s' := by
      have q1 : (0 < i ↔ 0 < i') := by
        have a1 : (0 < i * j' * ((2 ^ k' : Nat) : Int)) ↔ 0 < i := by
          rw [Int.mul_assoc]; exact mpos (Int.mul_pos hj' p2)
        have a2 : (0 < i' * j * ((2 ^ k : Nat) : Int)) ↔ 0 < i' := by
          rw [Int.mul_assoc]; exact mpos (Int.mul_pos hj p1)
        rw [← a1, ← a2, h]
      have hi' : i' ≠ 0 := fun z => by
        rw [z, Int.zero_mul, Int.zero_mul] at h
        rcases Int.mul_eq_zero.mp h with q | q
        · rcases Int.mul_eq_zero.mp q with q | q
          · exact hi q
          · omega
        · omega
      unfold Core.signed at hs hs'
      cases s <;> cases s' <;> simp at hs hs' ⊢ <;> omega
    have ev : Core.val64 (FP.ddiv a b) = Core.val64 (FP.ddiv a' b') := by
      rw [e, e', hss]
      refine Core.roundRatio_congr (by omega) (by omega) ?_
      rcases Nat.le_total k k' with q | q
      · obtain ⟨z, rfl⟩ : ∃ z, k' = k + z := ⟨k' - k, by omega⟩
        rw [show (-(k : Int) - -((k + z : Nat) : Int)).toNat = z by omega, show (-((k + z : Nat) : Int) - -(k : Int)).toNat = 0 by omega, Nat.pow_zero, Nat.mul_one]
        rw [Nat.pow_add] at n1
        refine Nat.eq_of_mul_eq_mul_right (Nat.two_pow_pos k) ?_
        rw [← n1]; ac_rfl
      · obtain ⟨z, rfl⟩ : ∃ z, k = k' + z := ⟨k - k', by omega⟩
        rw [show (-((k' + z : Nat) : Int) - -(k' : Int)).toNat = 0 by omega, show (-(k' : Int) - -((k' + z : Nat) : Int)).toNat = z by omega, Nat.pow_zero, Nat.mul_one]
        rw [Nat.pow_add] at n1
        refine Nat.eq_of_mul_eq_mul_right (Nat.two_pow_pos k') ?_
        rw [n1]; ac_rfl
    have nn : Core.val64 (FP.ddiv a b) ≠ .nan := by rw [e]; exact Core.roundRatio_ne_nan _ _ _ _ _
    show Core.order (Core.val64 (FP.ddiv a b)) (Core.val64 (FP.ddiv a' b')) = _
    rw [← ev]
    exact Core.order_self nn
theorem div_noNaN {i j : Int} {k : Nat} {a b : UInt64} (ha : Dy i k a) (hb : Dy j 0 b) (hj : 0 < j) : NoNaN64 (FP.ddiv a b) := by
  obtain ⟨s, hs, e⟩ := div_val ha hb hj
  exact val64_no.mpr (by rw [e]; exact Core.roundRatio_ne_nan _ _ _ _ _)
/-- what dcmpl and dcmpg push -/
theorem cmpV_of (i j : Int) (o : ClassFile.CmpOp) : Op.cmpValue (some (compare i j)) o = if i < j then -1 else if i = j then 0 else 1 := by
  rw [Core.compare_ite]
  by_cases h1 : i < j
  · rw [if_pos h1, if_pos h1]; cases o <;> rfl
  · rw [if_neg h1, if_neg h1]
    by_cases h2 : i = j
    · rw [if_pos h2, if_pos h2]; cases o <;> rfl
    · rw [if_neg h2, if_neg h2]; cases o <;> rfl
theorem Dy.cmpV {i j : Int} {k : Nat} {a b : UInt64} (ha : Dy i k a) (hb : Dy j k b) (o : ClassFile.CmpOp) : Op.cmpValue (FP.dcmp a b) o = if i < j then -1 else if i = j then 0 else 1 := by
  rw [Dy.cmp ha hb]; exact cmpV_of i j o
theorem dy_zero : Dy 0 0 FP.dconst0 := by
  unfold Dy; rw [sh_zero, show Core.val64 FP.dconst0 = .fin false 0 Core.b64.qmin from Core.val64_dconst0]
  show Core.signed false (0 * _) = 0 * _
  rw [Nat.zero_mul, Int.zero_mul]; rfl
theorem dy_one : Dy 1 0 FP.dconst1 := by
  unfold Dy; rw [sh_zero, show Core.val64 FP.dconst1 = .fin false (2 ^ 52) (-52) from Core.val64_dconst1]
  show Core.signed false (2 ^ 52 * 2 ^ (-52 : Int).toNat) = 1 * ((2 ^ (-(-52 : Int)).toNat : Nat) : Int)
  decide
theorem Dy.of_bits {u : UInt64} {c : Nat} {q : Int} {i : Int} {k : Nat} (h : Core.val64 u = .fin false c q) (hi : ((c * 2 ^ (q + k).toNat : Nat) : Int) = i * ((2 ^ (-(q + k)).toNat : Nat) : Int)) : Dy i k u := by
  unfold Dy; rw [h]; exact hi
theorem Dy.maxz {i : Int} {u : UInt64} (h : Dy i 0 u) : Dy (max i 0) 0 (Jvm.Native.java_lang_Math.nans.pick64 true u FP.dconst0) := by
  have e := Dy.cmp h dy_zero
  unfold Jvm.Native.java_lang_Math.nans.pick64
  rw [e, Core.compare_ite]
  by_cases h1 : i < 0
  · rw [if_pos h1]; exact dy_zero.cast (by omega) rfl
  · rw [if_neg h1]
    by_cases h2 : i = 0
    · rw [if_pos h2]
      show Dy (max i 0) 0 (if ((u >>> 63 == 1) == true) = true then FP.dconst0 else u)
      split
      · exact dy_zero.cast (by omega) rfl
      · exact h.cast (by omega) rfl
    · rw [if_neg h2]; exact h.cast (by omega) rfl
theorem Dy.i2d (x : Int32) : Dy x.toInt 0 (FP.i2d x) := Dy.of_int (Core.i2d_int x)
theorem Dy.l2d {x : Int64} (h : x.toInt.natAbs ≤ 2 ^ 53) : Dy x.toInt 0 (FP.l2d x) := Dy.of_int (Core.l2d_int h)
end Jvm.OwnF
namespace Jvm.OwnF
open Jvm.FP Jvm.Free.Fl
/-! The quotient of two whole numbers beside dyadics: rounding is monotone. -/
theorem dy_ex {i : Int} {k : Nat} (hi : i.natAbs ≤ 2 ^ 53) (hk : k ≤ 1000) : ∃ u, Dy i k u := by
  refine ⟨Core.of64 (Core.roundRatio Core.b64 (decide (i < 0)) i.natAbs 1 (-(k : Int))), ?_⟩
  unfold Dy
  rw [Core.val64_of64 (Core.roundRatio_fits Core.good_b64 _ _ (by decide) _)]
  refine whole_ratio _ ?_ hi hk
  unfold Core.signed
  by_cases h : i < 0 <;> simp [h] <;> omega
def zvl (u : UInt64) : Int := Core.zval Core.b64 (Core.val64 u)
theorem Dy.zm {n : Int} {k : Nat} {u : UInt64} (h : Dy n k u) : Core.zmag Core.b64 (Core.val64 u) * 2 ^ k = n.natAbs * Core.one64 := by
  obtain ⟨s, c, q, e⟩ := h.shape
  have hf := Core.val64_fits u
  unfold Dy at h
  rw [e] at h hf ⊢
  have h1 := Core.whole_natAbs (show Core.Whole n (.fin s c (q + (k : Int))) from h)
  have h2 : Core.b64.qmin ≤ q := hf.2.1
  rw [Core.qmin_b64] at h2
  show c * 2 ^ (q - Core.b64.qmin).toNat * 2 ^ k = n.natAbs * 2 ^ 1074
  rw [Core.qmin_b64]
  refine Nat.eq_of_mul_eq_mul_right (Nat.two_pow_pos (-(q + (k : Int))).toNat) ?_
  generalize n.natAbs = N at h1 ⊢
  calc c * 2 ^ (q - -1074).toNat * 2 ^ k * 2 ^ (-(q + (k : Int))).toNat
      = c * 2 ^ ((q - -1074).toNat + k + (-(q + (k : Int))).toNat) := by rw [Nat.pow_add, Nat.pow_add]; ac_rfl
    _ = c * 2 ^ ((q + (k : Int)).toNat + 1074) := by rw [show (q - -1074).toNat + k + (-(q + (k : Int))).toNat = (q + (k : Int)).toNat + 1074 by omega]
    _ = (c * 2 ^ (q + (k : Int)).toNat) * 2 ^ 1074 := by rw [Nat.pow_add 2 (q + (k : Int)).toNat 1074, Nat.mul_assoc]
    _ = N * 2 ^ 1074 * 2 ^ (-(q + (k : Int))).toNat := by rw [h1]; exact Nat.mul_right_comm _ _ _
theorem Dy.zvE {n : Int} {k : Nat} {u : UInt64} (h : Dy n k u) : zvl u * ((2 ^ k : Nat) : Int) = n * (Core.one64 : Int) := by
  have hz := h.zm
  obtain ⟨s, c, q, e⟩ := h.shape
  unfold Dy at h
  unfold zvl Core.zval
  rw [e] at h hz ⊢
  show Core.signed s (Core.zmag Core.b64 (.fin s c q)) * _ = _
  rw [← Core.signed_mul, hz, Core.signed_mul, sgn_whole (show Core.Whole n (.fin s c (q + (k : Int))) from h)]
theorem cmp_zv {a b : UInt64} (ha : NoNaN64 a) (hb : NoNaN64 b) : FP.dcmp a b = some (compare (zvl a) (zvl b)) := Core.dcmp_zval (val64_no.mp ha) (val64_no.mp hb)
theorem cmpV_zv {a b : UInt64} (ha : NoNaN64 a) (hb : NoNaN64 b) (o : ClassFile.CmpOp) : Op.cmpValue (FP.dcmp a b) o = if zvl a < zvl b then -1 else if zvl a = zvl b then 0 else 1 := by
  rw [cmp_zv ha hb]; exact cmpV_of _ _ o
theorem signed_le (s : Bool) (x : Nat) : Core.signed s x ≤ (x : Int) := by cases s <;> simp [Core.signed] <;> omega
theorem div_le {i j n : Int} {k : Nat} {a b V : UInt64} (ha : Dy i 0 a) (hb : Dy j 0 b) (hj : 0 < j) (hi : 0 ≤ i) (hV : Dy n k V) (hn : 0 ≤ n) (h : i * ((2 ^ k : Nat) : Int) ≤ n * j) : zvl (FP.ddiv a b) ≤ zvl V := by
  obtain ⟨s, hs, e⟩ := div_val ha hb hj
  have hz := hV.zm
  have h1 : Core.zmag Core.b64 (Core.roundRatio Core.b64 s i.natAbs j.natAbs (-((0 : Nat) : Int))) ≤ Core.zmag Core.b64 (Core.val64 V) := by
    refine Core.zmag_roundRatio_le Core.good_b64 (e0 := Core.b64.qmin) (by omega) (Core.val64_fits V) hV.ne_nan (Int.le_refl _) (by rw [Core.qmin_b64]; omega) ?_
    have q1 : Core.inUnits i.natAbs (-((0 : Nat) : Int)) Core.b64.qmin = i.natAbs * Core.one64 := by
      show i.natAbs * 2 ^ (-((0 : Nat) : Int) - Core.b64.qmin).toNat = i.natAbs * 2 ^ 1074
      rw [Core.qmin_b64]; rfl
    rw [q1, show (Core.b64.qmin - Core.b64.qmin).toNat = 0 by omega, Nat.pow_zero, Nat.mul_one]
    refine Nat.le_of_mul_le_mul_right ?_ (Nat.two_pow_pos k)
    have h2 : i.natAbs * 2 ^ k ≤ n.natAbs * j.natAbs := by
      have e1 : ((i.natAbs * 2 ^ k : Nat) : Int) = i * ((2 ^ k : Nat) : Int) := by rw [Int.natCast_mul, show ((i.natAbs : Nat) : Int) = i by omega]
      have e2 : ((n.natAbs * j.natAbs : Nat) : Int) = n * j := by rw [Int.natCast_mul, show ((n.natAbs : Nat) : Int) = n by omega, show ((j.natAbs : Nat) : Int) = j by omega]
      omega
    calc i.natAbs * Core.one64 * 2 ^ k = (i.natAbs * 2 ^ k) * Core.one64 := Nat.mul_right_comm _ _ _
      _ ≤ (n.natAbs * j.natAbs) * Core.one64 := Nat.mul_le_mul_right _ h2
      _ = Core.zmag Core.b64 (Core.val64 V) * 2 ^ k * j.natAbs := by rw [hz]; exact Nat.mul_right_comm _ _ _
      _ = Core.zmag Core.b64 (Core.val64 V) * j.natAbs * 2 ^ k := by ac_rfl
  have hv : zvl V = ((Core.zmag Core.b64 (Core.val64 V) : Nat) : Int) := by
    have p : ((2 ^ k : Nat) : Int) ≠ 0 := by have := Nat.two_pow_pos k; omega
    refine Int.eq_of_mul_eq_mul_right p ?_
    rw [hV.zvE, ← Int.natCast_mul, hz, Int.natCast_mul, show ((n.natAbs : Nat) : Int) = n by omega]
  rw [hv]
  unfold zvl Core.zval
  rw [e]
  exact Int.le_trans (signed_le _ _) (Int.ofNat_le.mpr h1)
theorem div_ge {i j n : Int} {k : Nat} {a b V : UInt64} (ha : Dy i 0 a) (hb : Dy j 0 b) (hj : 0 < j) (hi : 0 < i) (hV : Dy n k V) (hn : 0 ≤ n) (h : n * j ≤ i * ((2 ^ k : Nat) : Int)) : zvl V ≤ zvl (FP.ddiv a b) := by
  obtain ⟨s, hs, e⟩ := div_val ha hb hj
  have hz := hV.zm
  have hs0 : s = false := by cases s with
    | false => rfl
    | true => simp [Core.signed] at hs; omega
  have h1 : Core.zmag Core.b64 (Core.val64 V) ≤ Core.zmag Core.b64 (Core.roundRatio Core.b64 s i.natAbs j.natAbs (-((0 : Nat) : Int))) := by
    refine Core.zmag_roundRatio_ge Core.good_b64 (e0 := Core.b64.qmin) (by omega) (Core.val64_fits V) (Int.le_refl _) (by rw [Core.qmin_b64]; omega) ?_
    have q1 : Core.inUnits i.natAbs (-((0 : Nat) : Int)) Core.b64.qmin = i.natAbs * Core.one64 := by
      show i.natAbs * 2 ^ (-((0 : Nat) : Int) - Core.b64.qmin).toNat = i.natAbs * 2 ^ 1074
      rw [Core.qmin_b64]; rfl
    rw [q1, show (Core.b64.qmin - Core.b64.qmin).toNat = 0 by omega, Nat.pow_zero, Nat.mul_one]
    refine Nat.le_of_mul_le_mul_right ?_ (Nat.two_pow_pos k)
    have h2 : n.natAbs * j.natAbs ≤ i.natAbs * 2 ^ k := by
      have e1 : ((i.natAbs * 2 ^ k : Nat) : Int) = i * ((2 ^ k : Nat) : Int) := by rw [Int.natCast_mul, show ((i.natAbs : Nat) : Int) = i by omega]
      have e2 : ((n.natAbs * j.natAbs : Nat) : Int) = n * j := by rw [Int.natCast_mul, show ((n.natAbs : Nat) : Int) = n by omega, show ((j.natAbs : Nat) : Int) = j by omega]
      omega
    calc Core.zmag Core.b64 (Core.val64 V) * j.natAbs * 2 ^ k = Core.zmag Core.b64 (Core.val64 V) * 2 ^ k * j.natAbs := by ac_rfl
      _ = (n.natAbs * j.natAbs) * Core.one64 := by rw [hz]; exact Nat.mul_right_comm _ _ _
      _ ≤ (i.natAbs * 2 ^ k) * Core.one64 := Nat.mul_le_mul_right _ h2
      _ = i.natAbs * Core.one64 * 2 ^ k := Nat.mul_right_comm _ _ _
  have hv : zvl V = ((Core.zmag Core.b64 (Core.val64 V) : Nat) : Int) := by
    have p : ((2 ^ k : Nat) : Int) ≠ 0 := by have := Nat.two_pow_pos k; omega
    refine Int.eq_of_mul_eq_mul_right p ?_
    rw [hV.zvE, ← Int.natCast_mul, hz, Int.natCast_mul, show ((n.natAbs : Nat) : Int) = n by omega]
  rw [hv]
  unfold zvl Core.zval
  rw [e, Core.sgn_roundRatio, hs0]
  rw [hs0] at h1
  exact Int.ofNat_le.mpr h1
theorem zv_lt {n n' : Int} {k : Nat} {V V' : UInt64} (h : Dy n k V) (h' : Dy n' k V') (q : n < n') : zvl V < zvl V' := by
  have a := h.zvE
  have b := h'.zvE
  have p : (0 : Int) < ((2 ^ k : Nat) : Int) := by have := Nat.two_pow_pos k; omega
  have o : (0 : Int) < (Core.one64 : Int) := by have := Core.one64_pos; omega
  refine (Int.mul_lt_mul_right p).mp ?_
  rw [a, b]
  exact Int.mul_lt_mul_of_pos_right q o
/-- c / l among the doubles, 0 ≤ c ≤ l, 1 ≤ l < 2^31 -/
theorem frac_pos {c l : Int} {a b : UInt64} (ha : Dy c 0 a) (hb : Dy l 0 b) (hl : 0 < l) (hl2 : l < 2147483648) (hc : 0 < c) : zvl FP.dconst0 < zvl (FP.ddiv a b) := by
  obtain ⟨V, hV⟩ := dy_ex (i := 1) (k := 31) (by decide) (by decide)
  have z : Dy 0 31 FP.dconst0 := (dy_zero.scale 31).cast (by simp) rfl
  refine Int.lt_of_lt_of_le (zv_lt z hV (by decide)) (div_ge ha hb hl hc hV (by decide) ?_)
  rw [show ((2 ^ 31 : Nat) : Int) = 2147483648 by decide]; omega
theorem frac_lt_one {c l : Int} {a b : UInt64} (ha : Dy c 0 a) (hb : Dy l 0 b) (hl : 0 < l) (hl2 : l < 2147483648) (hc : 0 ≤ c) (hcl : c < l) : zvl (FP.ddiv a b) < zvl FP.dconst1 := by
  obtain ⟨V, hV⟩ := dy_ex (i := 2147483647) (k := 31) (by decide) (by decide)
  have z : Dy 2147483648 31 FP.dconst1 := (dy_one.scale 31).cast (by decide) rfl
  refine Int.lt_of_le_of_lt (div_le ha hb hl hc hV (by decide) ?_) (zv_lt hV z (by decide))
  rw [show ((2 ^ 31 : Nat) : Int) = 2147483648 by decide]; omega
theorem frac_lt {c l : Int} {a b a' : UInt64} (ha : Dy c 0 a) (hb : Dy l 0 b) (ha' : Dy (c + 1) 0 a') (hl : 0 < l) (hl2 : l < 2147483648) (hc : 0 ≤ c) (hcl : c < l) : zvl (FP.ddiv a b) < zvl (FP.ddiv a' b) := by
  have hq := Int.mul_ediv_add_emod (c * 8589934592) l
  have hr := Int.emod_lt_of_pos (c * 8589934592) hl
  have hr0 := Int.emod_nonneg (c * 8589934592) (show l ≠ 0 by omega)
  have hq0 : 0 ≤ c * 8589934592 / l := Int.ediv_nonneg (by omega) (by omega)
  have hq1 : c * 8589934592 / l < 8589934592 := Int.ediv_lt_of_lt_mul hl (by rw [Int.mul_comm 8589934592 l]; exact Int.mul_lt_mul_of_pos_right hcl (by decide))
  generalize c * 8589934592 / l = q at hq hq0 hq1
  generalize c * 8589934592 % l = r at hq hr hr0
  obtain ⟨V, hV⟩ := dy_ex (i := q + 1) (k := 33) (by omega) (by decide)
  obtain ⟨V', hV'⟩ := dy_ex (i := q + 2) (k := 33) (by omega) (by decide)
  have e33 : ((2 ^ 33 : Nat) : Int) = 8589934592 := by decide
  have m1 : (q + 1) * l = l * q + l := by rw [Int.add_mul, Int.mul_comm q l]; omega
  have m2 : (q + 2) * l = l * q + 2 * l := by rw [Int.add_mul, Int.mul_comm q l]
  refine Int.lt_of_le_of_lt (div_le ha hb hl hc hV (by omega) ?_) (Int.lt_of_lt_of_le (zv_lt hV hV' (by omega)) (div_ge ha' hb hl (by omega) hV' (by omega) ?_))
  · rw [e33, m1]; omega
  · rw [e33, m2]; omega
end Jvm.OwnF
namespace Jvm.RoadKit
open Sem ClassFile Op Lib Jvm.Stand Jvm.Free Jvm.LawKit
section New
variable {p : Program} {l : Launch} {e : Env} {R : Room} {s : State} {m : MethodId} {args : Array Value} {below : List Frame} {meth : Method} {c : Code} {T : State} {locs : List Loc} {cells slots : Nat}
theorem retI (X : Stand p l e R s m args below meth c T locs cells slots) (hx : p.tables.exec = Jvm.exec) {pc : Nat} {Ls : Array Slot} {z : Int32} {rest : List Value} (hret : meth.sig.returnType = some .int) (hd : decode c.code pc = .ok (.ireturn, 1)) {fs : List Frame}
    (hl : ∀ (f : JFrame) (acts : List Action), f.method = m → f.locked = none → f.entered = [] → (doReturn e (T.setTop f) acts (some (.int z))).1 = T.setFrames fs) : Steps p.tables e below (T.setTop (mkF m pc Ls (.int z :: rest))) (T.setFrames fs) := by
  have hm' : T.vm.method? m = some meth := X.method'
  have hn : narrow .int (.int z) = .int z := rfl
  show Steps p.tables e below (T.setTop { method := m, pc := pc, locals := Ls, stack := _ :: rest, locked := none }) _
  jvm_step X.here [X.here.top, hx, hd, hm', hret, hn]
  first | (intro acts; rw [hl _ acts rfl rfl rfl]) | rw [hl _ _ rfl rfl rfl]
  exact Steps.refl _
theorem retD (X : Stand p l e R s m args below meth c T locs cells slots) (hx : p.tables.exec = Jvm.exec) {pc : Nat} {Ls : Array Slot} {z : UInt64} {rest : List Value} (hret : meth.sig.returnType = some .double) (hd : decode c.code pc = .ok (.dreturn, 1)) {fs : List Frame}
    (hl : ∀ (f : JFrame) (acts : List Action), f.method = m → f.locked = none → f.entered = [] → (doReturn e (T.setTop f) acts (some (.double z))).1 = T.setFrames fs) : Steps p.tables e below (T.setTop (mkF m pc Ls (.double z :: rest))) (T.setFrames fs) := by
  have hm' : T.vm.method? m = some meth := X.method'
  have hn : narrow .double (.double z) = .double z := rfl
  show Steps p.tables e below (T.setTop { method := m, pc := pc, locals := Ls, stack := _ :: rest, locked := none }) _
  jvm_step X.here [X.here.top, hx, hd, hm', hret, hn]
  first | (intro acts; rw [hl _ acts rfl rfl rfl]) | rw [hl _ _ rfl rfl rfl]
  exact Steps.refl _
theorem retB (X : Stand p l e R s m args below meth c T locs cells slots) (hx : p.tables.exec = Jvm.exec) {pc : Nat} {Ls : Array Slot} {z : Int32} {rest : List Value} (hret : meth.sig.returnType = some .boolean) (hz : z = 0 ∨ z = 1) (hd : decode c.code pc = .ok (.ireturn, 1)) {fs : List Frame}
    (hl : ∀ (f : JFrame) (acts : List Action), f.method = m → f.locked = none → f.entered = [] → (doReturn e (T.setTop f) acts (some (.int z))).1 = T.setFrames fs) : Steps p.tables e below (T.setTop (mkF m pc Ls (.int z :: rest))) (T.setFrames fs) := by
  have q : nar .boolean z = z := by rcases hz with rfl | rfl <;> rfl
  refine retN X hx hret (Or.inl rfl) hd ?_
  rw [q]; exact hl
end New
end Jvm.RoadKit
namespace Jvm.Pilot.@@N@@
open Jvm Jvm.ClassFile Sem Op Lib Jvm.Free Jvm.Stand Jvm.LawKit Jvm.RoadKit Bundle Jvm.Pilot.@@N@@.Jvm.D Jvm.OwnF Jvm.Free.Fl
theorem own_nn {p1 p2 : Int32} (h : ¬ p2 = 0) : NoNaN64 (FP.ddiv (FP.i2d p1) (FP.i2d p2)) := ddiv_out (i2d_fin p1).noNaN (i2d_fin p2) ((nz64_iff _).mpr (FP.Core.i2d_ne_zero h))
theorem own_mm (x : Int32) : 1 ≤ ((1 : Int32) + (x &&& (7 : Int32))).toInt ∧ ((1 : Int32) + (x &&& (7 : Int32))).toInt ≤ 8 := by
  have h := c_mask x 7 3 (by decide) (by decide)
  have q := c_iadd (1 : Int32) (x &&& (7 : Int32))
  have r := rng32 ((1 : Int32) + (x &&& (7 : Int32)))
  rw [show (1 : Int32).toInt = 1 by decide] at q
  omega
theorem own_pow (p4 : Int32) {mm : Int32} (h1 : 1 ≤ mm.toInt) (h8 : mm.toInt ≤ 8) : 0 ≤ ((1 : Int32) <<< ((((p4.toUInt32 >>> ((2 : Int32) &&& 31).toUInt32).toInt32) % (28 : Int32)) &&& 31)).toInt ∧ ((1 : Int32) <<< ((((p4.toUInt32 >>> ((2 : Int32) &&& 31).toUInt32).toInt32) % (28 : Int32)) &&& 31)).toInt * mm.toInt ≤ 2147483647 ∧ ∃ e : Nat, e ≤ 27 ∧ ((1 : Int32) <<< ((((p4.toUInt32 >>> ((2 : Int32) &&& 31).toUInt32).toInt32) % (28 : Int32)) &&& 31)).toInt = ((2 ^ e : Nat) : Int) := by
  have a1 := c_iushr p4 2 2 (by decide) (by decide)
  generalize (p4.toUInt32 >>> ((2 : Int32) &&& 31).toUInt32).toInt32 = u at a1
  have a2 := (c_irem u 28 28 (by decide)).1 (by omega)
  generalize u % (28 : Int32) = w at a2
  have b0 : 0 ≤ w.toInt ∧ w.toInt < 28 := by omega
  have b1 : w.toBitVec.toNat % 32 = w.toInt.toNat := by
    have e1 : w.toInt = w.toBitVec.toInt := rfl
    have e2 := BitVec.toInt_eq_toNat_cond w.toBitVec
    have e3 := w.toBitVec.isLt
    rw [e1] at b0 ⊢
    split at e2 <;> omega
  have a3 := c_ishl 1 w _ b1
  have r := rng32 ((1 : Int32) <<< (w &&& 31))
  generalize hE : w.toInt.toNat = E at a3
  have hE27 : E ≤ 27 := by omega
  have p1 : 2 ^ E ≤ 2 ^ 27 := Nat.pow_le_pow_right (by decide) hE27
  have p0 := Nat.two_pow_pos E
  rw [show (1 : Int32).toInt = 1 by decide, Int.one_mul] at a3
  have e : ((1 : Int32) <<< (w &&& 31)).toInt = ((2 ^ E : Nat) : Int) := by
    generalize (2 ^ E : Nat) = P at *
    omega
  refine ⟨by rw [e]; omega, ?_, E, hE27, e⟩
  rw [e]
  have m1 : ((2 ^ E : Nat) : Int) * mm.toInt ≤ 134217728 * 8 := Int.mul_le_mul (by omega) h8 (by omega) (by decide)
  omega
theorem own_div (p2 : Int32) {mm : Int32} (h1 : 1 ≤ mm.toInt) (h8 : mm.toInt ≤ 8) : 0 ≤ ((p2 &&& (2147483647 : Int32)) / mm).toInt ∧ ((p2 &&& (2147483647 : Int32)) / mm).toInt * mm.toInt ≤ 2147483647 := by
  have a := c_and p2 2147483647 (by decide)
  rw [show (2147483647 : Int32).toInt = 2147483647 by decide] at a
  have b := (c_idiv (p2 &&& (2147483647 : Int32)) mm mm.toInt rfl (fun q => by rw [q] at h1; exact absurd h1 (by decide))).1 a.1
  have c := Int.ediv_mul_le (p2 &&& (2147483647 : Int32)).toInt (show mm.toInt ≠ 0 by omega)
  have d := Int.ediv_nonneg a.1 (show 0 ≤ mm.toInt by omega)
  rw [b]; exact ⟨d, by omega⟩
theorem own_y {bs : Int32} (h : 0 ≤ bs.toInt) : (bs.toInt64 + (1 : Int64)).toInt = bs.toInt + 1 := by
  have q := c_ladd bs.toInt64 1
  rw [c_i2l, show (1 : Int64).toInt = 1 by decide] at q
  have := rng64 (bs.toInt64 + (1 : Int64)); have := rng32 bs
  omega
theorem own_nz {bs : Int32} (h : 0 ≤ bs.toInt) : (bs.toInt64 + (1 : Int64)) ≠ 0 := fun q => by
  have := own_y h; rw [q, show (0 : Int64).toInt = 0 by decide] at this; omega
theorem own_c0 (p1 : Int32) {bs : Int32} (h : 0 ≤ bs.toInt) : 0 ≤ ((((p1 &&& (2147483647 : Int32)).toInt64) - (((p1 &&& (2147483647 : Int32)).toInt64) / ((bs.toInt64) + (1 : Int64))) * ((bs.toInt64) + (1 : Int64))).toInt32).toInt ∧ ((((p1 &&& (2147483647 : Int32)).toInt64) - (((p1 &&& (2147483647 : Int32)).toInt64) / ((bs.toInt64) + (1 : Int64))) * ((bs.toInt64) + (1 : Int64))).toInt32).toInt ≤ bs.toInt := by
  have a := c_and p1 2147483647 (by decide)
  have b := (c_lrem (p1 &&& (2147483647 : Int32)).toInt64 (bs.toInt64 + (1 : Int64)) _ (own_y h)).1 (by rw [c_i2l]; exact a.1)
  generalize ((p1 &&& (2147483647 : Int32)).toInt64) - (((p1 &&& (2147483647 : Int32)).toInt64) / ((bs.toInt64) + (1 : Int64))) * ((bs.toInt64) + (1 : Int64)) = y at b
  have d := c_l2i y
  have r := rng32 y.toInt32; have rb := rng32 bs
  have m0 := Int.emod_nonneg (p1 &&& (2147483647 : Int32)).toInt64.toInt (show bs.toInt + 1 ≠ 0 by omega)
  have m1 := Int.emod_lt_of_pos (p1 &&& (2147483647 : Int32)).toInt64.toInt (show 0 < bs.toInt + 1 by omega)
  rw [← b] at m0 m1
  omega
theorem own_nums {bs mm c0 : Int32} (h1 : 1 ≤ mm.toInt) (h8 : mm.toInt ≤ 8) (hb : 0 ≤ bs.toInt) (hbm : bs.toInt * mm.toInt ≤ 2147483647) (hc : 0 ≤ c0.toInt) (hc2 : c0.toInt ≤ bs.toInt) : (bs * mm).toInt = bs.toInt * mm.toInt ∧ (c0 * mm).toInt = c0.toInt * mm.toInt ∧ 0 ≤ (c0 * mm).toInt ∧ (c0 * mm).toInt ≤ (bs * mm).toInt := by
  have a := c_imul bs mm; have b := c_imul c0 mm
  have r1 := rng32 (bs * mm); have r2 := rng32 (c0 * mm)
  have p1 : 0 ≤ bs.toInt * mm.toInt := Int.mul_nonneg hb (by omega)
  have p2 : 0 ≤ c0.toInt * mm.toInt := Int.mul_nonneg hc (by omega)
  have p3 : c0.toInt * mm.toInt ≤ bs.toInt * mm.toInt := Int.mul_le_mul_of_nonneg_right hc2 (by omega)
  generalize bs.toInt * mm.toInt = P at *
  generalize c0.toInt * mm.toInt = Q at *
  omega
theorem own_q2 {c0 bs : Int32} {e : Nat} (h : bs.toInt = ((2 ^ e : Nat) : Int)) {qq : UInt64} (hq : qq = FP.ddiv (FP.i2d c0) (FP.i2d bs)) : e ≤ 27 → Dy c0.toInt e qq := fun he => by
  rw [hq]
  have y := ((Dy.i2d c0).scale e).cast rfl (Nat.zero_add e)
  have p := Nat.two_pow_pos e
  have r := rng32 c0
  exact y.div (Dy.i2d bs) (by rw [h]; omega) (by rw [h]) (by omega) (by omega)
theorem own_main {ct ln c0 bs mm : Int32} (hbp : 0 < bs.toInt) (hlp : 0 < ln.toInt) (h1 : 1 ≤ mm.toInt) (hn1 : ln.toInt = bs.toInt * mm.toInt) (hn2 : ct.toInt = c0.toInt * mm.toInt) (hn3 : 0 ≤ ct.toInt) (hn4 : ct.toInt ≤ ln.toInt) {pp qq : UInt64} (hpp : pp = FP.ddiv (FP.i2d ct) (FP.i2d ln)) (hqq : qq = FP.ddiv (FP.i2d c0) (FP.i2d bs)) :
    NoNaN64 pp ∧ NoNaN64 qq ∧ ¬ ((0 : Int32) < cmpValue (FP.dcmp FP.dconst0 pp) .g) ∧ ¬ ((0 : Int32) < cmpValue (FP.dcmp pp FP.dconst1) .g) ∧ (cmpValue (FP.dcmp pp FP.dconst0) .l = (0 : Int32) ↔ ct = (0 : Int32)) ∧ (cmpValue (FP.dcmp pp FP.dconst1) .l = (0 : Int32) ↔ ct = ln) ∧ cmpValue (FP.dcmp pp qq) .l = (0 : Int32) := by
  have yc := Dy.i2d ct; have yl := Dy.i2d ln
  have rl := rng32 ln
  have n1 : NoNaN64 pp := hpp ▸ div_noNaN yc yl hlp
  have n2 : NoNaN64 qq := hqq ▸ div_noNaN (Dy.i2d c0) (Dy.i2d bs) hbp
  have z0 : ct.toInt = 0 → zvl pp = zvl FP.dconst0 := fun q => by
    have y : Dy 0 0 pp := hpp ▸ yc.div yl hlp (m := 0) (by omega) (by decide) (by decide)
    have a := y.zvE; have b := dy_zero.zvE
    simp at a b; omega
  have z1 : 0 < ct.toInt → zvl FP.dconst0 < zvl pp := fun q => hpp ▸ frac_pos yc yl hlp (by omega) q
  have z2 : ct.toInt < ln.toInt → zvl pp < zvl FP.dconst1 := fun q => hpp ▸ frac_lt_one yc yl hlp (by omega) hn3 q
  have z3 : ct.toInt = ln.toInt → zvl pp = zvl FP.dconst1 := fun q => by
    have y : Dy 1 0 pp := hpp ▸ yc.div yl hlp (m := 1) (by omega) (by decide) (by decide)
    have a := y.zvE; have b := dy_one.zvE
    simp at a b; omega
  have i1 : ct = (0 : Int32) ↔ ct.toInt = 0 := ⟨fun q => by rw [q]; decide, fun q => Int32.toInt_inj.mp q⟩
  have i2 : ct = ln ↔ ct.toInt = ln.toInt := ⟨fun q => by rw [q], fun q => Int32.toInt_inj.mp q⟩
  refine ⟨n1, n2, ?_, ?_, ?_, ?_, ?_⟩
  · rw [cmpV_zv dy_zero.noNaN n1]
    have : zvl FP.dconst0 ≤ zvl pp := by
      rcases (show ct.toInt = 0 ∨ 0 < ct.toInt by omega) with q | q
      · rw [z0 q]; exact Int.le_refl _
      · exact Int.le_of_lt (z1 q)
    split
    · decide
    · rw [if_pos (by omega)]; decide
  · rw [cmpV_zv n1 dy_one.noNaN]
    have : zvl pp ≤ zvl FP.dconst1 := by
      rcases (show ct.toInt = ln.toInt ∨ ct.toInt < ln.toInt by omega) with q | q
      · rw [z3 q]; exact Int.le_refl _
      · exact Int.le_of_lt (z2 q)
    split
    · decide
    · rw [if_pos (by omega)]; decide
  · rw [cmpV_zv n1 dy_zero.noNaN, i1]
    rcases (show ct.toInt = 0 ∨ 0 < ct.toInt by omega) with q | q
    · rw [z0 q, if_neg (by omega), if_pos rfl]; simp [q]
    · have := z1 q
      rw [if_neg (by omega), if_neg (by omega)]
      exact ⟨fun z => absurd z (by decide), fun z => by omega⟩
  · rw [cmpV_zv n1 dy_one.noNaN, i2]
    rcases (show ct.toInt = ln.toInt ∨ ct.toInt < ln.toInt by omega) with q | q
    · rw [z3 q, if_neg (by omega), if_pos rfl]; simp [q]
    · have := z2 q
      rw [if_pos (by omega)]
      exact ⟨fun z => absurd z (by decide), fun z => by omega⟩
  · have e := div_cmp_eq yc yl hlp (Dy.i2d c0) (Dy.i2d bs) hbp (by decide) (by decide) (by rw [hn1, hn2]; simp; ac_rfl)
    rw [hpp, hqq, e]; rfl
theorem own_last {ct ln : Int32} (hlp : 0 < ln.toInt) (hn3 : 0 ≤ ct.toInt) (hlt : ct < ln) {pp : UInt64} (hpp : pp = FP.ddiv (FP.i2d ct) (FP.i2d ln)) : cmpValue (FP.dcmp pp (FP.ddiv (FP.i2d (ct + (1 : Int32))) (FP.i2d ln))) .g < (0 : Int32) := by
  have q := Int32.lt_iff_toInt_lt.mp hlt
  have rl := rng32 ln
  have e : (ct + (1 : Int32)).toInt = ct.toInt + 1 := by
    have a := c_iadd ct 1; have b := rng32 (ct + (1 : Int32))
    rw [show (1 : Int32).toInt = 1 by decide] at a; omega
  have y' : Dy (ct.toInt + 1) 0 (FP.i2d (ct + (1 : Int32))) := e ▸ Dy.i2d (ct + (1 : Int32))
  have z := frac_lt (Dy.i2d ct) (Dy.i2d ln) y' hlp (by omega) hn3 q
  rw [hpp, cmpV_zv (div_noNaN (Dy.i2d ct) (Dy.i2d ln) hlp) (div_noNaN y' (Dy.i2d ln) hlp), if_pos z]
  decide


theorem d1_0 : decode prog_39_method_5_code 0 = .ok (.iload_n 1, 1) := by decide +kernel
theorem d1_1 : decode prog_39_method_5_code 1 = .ok (.ifCond .ne 7, 3) := by decide +kernel
theorem d1_4 : decode prog_39_method_5_code 4 = .ok (.dconst 0, 1) := by decide +kernel
theorem d1_5 : decode prog_39_method_5_code 5 = .ok (.goto 8, 3) := by decide +kernel
theorem d1_8 : decode prog_39_method_5_code 8 = .ok (.iload_n 0, 1) := by decide +kernel
theorem d1_9 : decode prog_39_method_5_code 9 = .ok (.i2d, 1) := by decide +kernel
theorem d1_10 : decode prog_39_method_5_code 10 = .ok (.iload_n 1, 1) := by decide +kernel
theorem d1_11 : decode prog_39_method_5_code 11 = .ok (.i2d, 1) := by decide +kernel
theorem d1_12 : decode prog_39_method_5_code 12 = .ok (.ddiv, 1) := by decide +kernel
theorem d1_13 : decode prog_39_method_5_code 13 = .ok (.dreturn, 1) := by decide +kernel
theorem pd_0 : parseMethodDescriptor "(II)D" = some ⟨[.int, .int], some .double⟩ := by decide +kernel
theorem pn_1 : plainName "com/example/sentence_hunt/sentencehunt/QueryLikelihood" = true := by first | (simp [plainName, overriddenIn]; done) | decide +kernel
theorem ef_1 (m : MethodId) (x0 : Int32) (x1 : Int32) : entryFrame m #[(.int x0), (.int x1)] 2 = mkF m 0 #[.val (.int x0), .val (.int x1)] [] := by first | (simp [entryFrame, mkF, argsToLocals, Value.category]; done) | rfl
def Qm1a (Z : State) (p1 : Int32) (p2 : Int32)  (h0 : Heap) (n0 : Nat) (v : Option Value) (h : Heap) (L : List Loc) : Prop := v = some (.double FP.dconst0) ∧ Fr n0 L ∧ h = h0
set_option maxRecDepth 65536 in
set_option maxHeartbeats 40000000 in
theorem rm1a (l : Launch) (Z : State) (a0 : Array Value) (hw : ∀ d ∈ tables_1, d.before a0 Z = true) (ws : List Jvm.Cond) (p1 : Int32) (p2 : Int32)  (h0 : Heap) (n0 : Nat) (Z0 : n0 ≤ h0.size) (hl : p2 = 0) :
    MetFree l (⟨"com/example/sentence_hunt/sentencehunt/QueryLikelihood", "sentenceProbability", "(II)D"⟩ : MethodName) (head1 (Jvm.Cond.code (⟨"com/example/sentence_hunt/sentencehunt/QueryLikelihood", "sentenceProbability", "(II)D"⟩ : MethodName) prog_39_method_5_code 2 (some .double) :: ws) ({ frames := 0, cells := 0, slots := 0, locals := 0 } : Room)) (fun a U => a = #[(.int p1), (.int p2)] ∧ Z.Warmed39 U.vm ∧ U.heap = h0) (fun _ _ _ _ _ => True) (fun _ U o U' => ∃ v L, o = .returned v ∧ Qm1a Z p1 p2 h0 n0 v U'.heap L ∧ FrameEnd U o U' L ({ frames := 0, cells := 0, slots := 0, locals := 0 } : Room).cells ({ frames := 0, cells := 0, slots := 0, locals := 0 } : Room).slots) := by
  refine MetFree.of_bodySF (plainFor_of_name pn_1) hisR ?_
  intro p e s m args below meth c s₁ Bd hml0 hP hK
  obtain ⟨rfl, hZ, hh⟩ := hP
  have hx := Bd.exec
  have hby := Bd.bytes
  have hml : c.maxLocals = 2 := hml0
  have hown : s.vm.findClass "com/example/sentence_hunt/sentencehunt/QueryLikelihood" = some m.cls := findClass_of_methodNamed Bd.named
  have hnm := (name_of_methodNamed Bd.named Bd.method).1
  have X0 : Stand p l e ({ frames := 0, cells := 0, slots := 0, locals := 0 } : Room) s m #[(.int p1), (.int p2)] below meth c s₁ [] 0 0 := Stand.of_body Bd
  have e0 : s₁.heap = h0 := by rw [← hh, Bd.state]; rfl
  have N0 := Fr.nil n0
  have pre0 : ∀ t, Steps p.tables e below (s₁.setTop (mkF m 0 #[.val (.int p1), .val (.int p2)] [])) t → Steps p.tables e below (s₁.setTop (entryFrame m #[(.int p1), (.int p2)] 2)) t := fun t k => castTop (ef_1 m p1 p2) k
  obtain ⟨S0, hS0⟩ : ∃ z, z = s₁.setTop (mkF m 0 #[.val (.int p1), .val (.int p2)] []) := ⟨_, rfl⟩
  have r0 : Steps p.tables e below S0 (s₁.setTop (mkF m 0 #[.val (.int p1), .val (.int p2)] [])) := by rw [hS0]; exact Steps.refl _
  have r1 : Steps p.tables e below S0 (s₁.setTop (mkF m 13 #[.val (.int p1), .val (.int p2)] [(.double FP.dconst0)])) := by
    refine r0.trans ?_
    show Steps p.tables e below (s₁.setTop (mkF m 0 #[.val (.int p1), .val (.int p2)] [])) _
    refine XS.iloadN X0.here hx rfl (hb hby d1_0) rfl ?_
    show Steps p.tables e below (s₁.setTop (mkF m 1 #[.val (.int p1), .val (.int p2)] [(.int p2)])) _
    refine XS.ifNo X0.here hx rfl (hb hby d1_1) rfl ((if0 _ _).trans (teq hl).2) ?_
    show Steps p.tables e below (s₁.setTop (mkF m 4 #[.val (.int p1), .val (.int p2)] [])) _
    refine XS.dconst0 X0.here hx rfl (hb hby d1_4) rfl ?_
    show Steps p.tables e below (s₁.setTop (mkF m 5 #[.val (.int p1), .val (.int p2)] [(.double FP.dconst0)])) _
    refine XS.goto X0.here hx rfl (pc0 := 5) (pc' := 13) rfl (hb hby d1_5) (by decide) (by decide) ?_
    exact Steps.refl _
  obtain ⟨fs, hr, hrun, hended, hW, hsame⟩ := X0.leave (v := some (.double FP.dconst0)) (fun h => by rw [Bd.returns] at h; cases h)
  refine ⟨_, _, pre0 _ ?_, hrun, hended, _, _, rfl, ?_, ⟨_, rfl⟩, hW, hsame.mono (by decide) (by decide)⟩
  · rw [← hS0]
    refine r1.trans ?_
    show Steps p.tables e below (s₁.setTop (mkF m 13 #[.val (.int p1), .val (.int p2)] [(.double FP.dconst0)])) _
    exact retD X0 hx Bd.returns (hb hby d1_13) hr
  · exact ⟨rfl, N0, e0⟩
def Qm1b (Z : State) (p1 : Int32) (p2 : Int32)  (h0 : Heap) (n0 : Nat) (v : Option Value) (h : Heap) (L : List Loc) : Prop := v = some (.double (FP.ddiv (FP.i2d p1) (FP.i2d p2))) ∧ Fr n0 L ∧ h = h0
set_option maxRecDepth 65536 in
set_option maxHeartbeats 40000000 in
theorem rm1b (l : Launch) (Z : State) (a0 : Array Value) (hw : ∀ d ∈ tables_1, d.before a0 Z = true) (ws : List Jvm.Cond) (p1 : Int32) (p2 : Int32)  (h0 : Heap) (n0 : Nat) (Z0 : n0 ≤ h0.size) (hl : ¬ p2 = 0) :
    MetFree l (⟨"com/example/sentence_hunt/sentencehunt/QueryLikelihood", "sentenceProbability", "(II)D"⟩ : MethodName) (head1 (Jvm.Cond.code (⟨"com/example/sentence_hunt/sentencehunt/QueryLikelihood", "sentenceProbability", "(II)D"⟩ : MethodName) prog_39_method_5_code 2 (some .double) :: ws) ({ frames := 0, cells := 0, slots := 0, locals := 0 } : Room)) (fun a U => a = #[(.int p1), (.int p2)] ∧ Z.Warmed39 U.vm ∧ U.heap = h0) (fun _ _ _ _ _ => True) (fun _ U o U' => ∃ v L, o = .returned v ∧ Qm1b Z p1 p2 h0 n0 v U'.heap L ∧ FrameEnd U o U' L ({ frames := 0, cells := 0, slots := 0, locals := 0 } : Room).cells ({ frames := 0, cells := 0, slots := 0, locals := 0 } : Room).slots) := by
  refine MetFree.of_bodySF (plainFor_of_name pn_1) hisR ?_
  intro p e s m args below meth c s₁ Bd hml0 hP hK
  obtain ⟨rfl, hZ, hh⟩ := hP
  have hx := Bd.exec
  have hby := Bd.bytes
  have hml : c.maxLocals = 2 := hml0
  have hown : s.vm.findClass "com/example/sentence_hunt/sentencehunt/QueryLikelihood" = some m.cls := findClass_of_methodNamed Bd.named
  have hnm := (name_of_methodNamed Bd.named Bd.method).1
  have X0 : Stand p l e ({ frames := 0, cells := 0, slots := 0, locals := 0 } : Room) s m #[(.int p1), (.int p2)] below meth c s₁ [] 0 0 := Stand.of_body Bd
  have e0 : s₁.heap = h0 := by rw [← hh, Bd.state]; rfl
  have N0 := Fr.nil n0
  have pre0 : ∀ t, Steps p.tables e below (s₁.setTop (mkF m 0 #[.val (.int p1), .val (.int p2)] [])) t → Steps p.tables e below (s₁.setTop (entryFrame m #[(.int p1), (.int p2)] 2)) t := fun t k => castTop (ef_1 m p1 p2) k
  obtain ⟨S0, hS0⟩ : ∃ z, z = s₁.setTop (mkF m 0 #[.val (.int p1), .val (.int p2)] []) := ⟨_, rfl⟩
  have r0 : Steps p.tables e below S0 (s₁.setTop (mkF m 0 #[.val (.int p1), .val (.int p2)] [])) := by rw [hS0]; exact Steps.refl _
  obtain ⟨dq, hdq⟩ : ∃ z, FP.ddiv (FP.i2d p1) (FP.i2d p2) = z := ⟨_, rfl⟩
  have r2 : Steps p.tables e below S0 (s₁.setTop (mkF m 13 #[.val (.int p1), .val (.int p2)] [(.double dq)])) := by
    refine r0.trans ?_
    show Steps p.tables e below (s₁.setTop (mkF m 0 #[.val (.int p1), .val (.int p2)] [])) _
    refine XS.iloadN X0.here hx rfl (hb hby d1_0) rfl ?_
    show Steps p.tables e below (s₁.setTop (mkF m 1 #[.val (.int p1), .val (.int p2)] [(.int p2)])) _
    refine XS.ifYes X0.here hx rfl (pc0 := 1) (pc' := 8) rfl (hb hby d1_1) rfl ((if0 _ _).trans (feq hl).2) (by decide) (by decide) ?_
    show Steps p.tables e below (s₁.setTop (mkF m 8 #[.val (.int p1), .val (.int p2)] [])) _
    refine XS.iloadN X0.here hx rfl (hb hby d1_8) rfl ?_
    show Steps p.tables e below (s₁.setTop (mkF m 9 #[.val (.int p1), .val (.int p2)] [(.int p1)])) _
    refine XS.i2dS X0.here hx rfl (hb hby d1_9) rfl rfl ?_
    show Steps p.tables e below (s₁.setTop (mkF m 10 #[.val (.int p1), .val (.int p2)] [(.double (FP.i2d p1))])) _
    refine XS.iloadN X0.here hx rfl (hb hby d1_10) rfl ?_
    show Steps p.tables e below (s₁.setTop (mkF m 11 #[.val (.int p1), .val (.int p2)] [(.int p2), (.double (FP.i2d p1))])) _
    refine XS.i2dS X0.here hx rfl (hb hby d1_11) rfl rfl ?_
    show Steps p.tables e below (s₁.setTop (mkF m 12 #[.val (.int p1), .val (.int p2)] [(.double (FP.i2d p2)), (.double (FP.i2d p1))])) _
    refine XS.ddivS X0.here hx rfl (hb hby d1_12) rfl (own_nn hl) hdq ?_
    exact Steps.refl _
  obtain ⟨fs, hr, hrun, hended, hW, hsame⟩ := X0.leave (v := some (.double dq)) (fun h => by rw [Bd.returns] at h; cases h)
  refine ⟨_, _, pre0 _ ?_, hrun, hended, _, _, rfl, ?_, ⟨_, rfl⟩, hW, hsame.mono (by decide) (by decide)⟩
  · rw [← hS0]
    refine r2.trans ?_
    show Steps p.tables e below (s₁.setTop (mkF m 13 #[.val (.int p1), .val (.int p2)] [(.double dq)])) _
    exact retD X0 hx Bd.returns (hb hby d1_13) hr
  · subst hdq; exact ⟨rfl, N0, e0⟩
theorem pn_0 : plainName "com/example/sentence_hunt/sentencehunt/QueryLikelihoodSentenceProbabilityPinLaw" = true := by first | (simp [plainName, overriddenIn]; done) | decide +kernel
theorem ef_0 (m : MethodId) (x0 : Int32) (x1 : Int32) (x2 : Int32) (x3 : Int32) : entryFrame m #[(.int x0), (.int x1), (.int x2), (.int x3)] maxLocals = mkF m 0 #[.val (.int x0), .val (.int x1), .val (.int x2), .val (.int x3), .unset, .unset, .unset, .unset, .unset, .unset, .unset, .unset, .unset, .unset, .unset] [] := by first | (simp [entryFrame, mkF, argsToLocals, Value.category, maxLocals]; done) | rfl
def Qm0 (Z : State) (p1 : Int32) (p2 : Int32) (p3 : Int32) (p4 : Int32)  (h0 : Heap) (n0 : Nat) (v : Option Value) (h : Heap) (L : List Loc) : Prop := v = some (.int 1) ∧ Fr n0 L
set_option maxRecDepth 65536 in
set_option maxHeartbeats 40000000 in
theorem rm0 (l : Launch) (Z : State) (a0 : Array Value) (hw : ∀ d ∈ tables_1, d.before a0 Z = true) (ws : List Jvm.Cond) (p1 : Int32) (p2 : Int32) (p3 : Int32) (p4 : Int32)  (h0 : Heap) (n0 : Nat) (Z0 : n0 ≤ h0.size)  :
    MetFree l x (head1 (Jvm.Cond.code x code maxLocals ret :: ws) room_1) (fun a U => a = #[(.int p1), (.int p2), (.int p3), (.int p4)] ∧ Z.Warmed39 U.vm ∧ U.heap = h0) (fun _ _ _ _ _ => True) (fun _ U o U' => ∃ v L, o = .returned v ∧ Qm0 Z p1 p2 p3 p4 h0 n0 v U'.heap L ∧ FrameEnd U o U' L room_1.cells room_1.slots) := by
  refine MetFree.of_bodySF (plainFor_of_name pn_0) hisR ?_
  intro p e s m args below meth c s₁ Bd hml0 hP hK
  obtain ⟨rfl, hZ, hh⟩ := hP
  have hx := Bd.exec
  have hby := Bd.bytes
  have hml : c.maxLocals = 15 := hml0
  have hown : s.vm.findClass "com/example/sentence_hunt/sentencehunt/QueryLikelihoodSentenceProbabilityPinLaw" = some m.cls := findClass_of_methodNamed Bd.named
  have hnm := (name_of_methodNamed Bd.named Bd.method).1
  have X0 : Stand p l e room_1 s m #[(.int p1), (.int p2), (.int p3), (.int p4)] below meth c s₁ [] 0 0 := Stand.of_body Bd
  have e0 : s₁.heap = h0 := by rw [← hh, Bd.state]; rfl
  have N0 := Fr.nil n0
  have pre0 : ∀ t, Steps p.tables e below (s₁.setTop (mkF m 0 #[.val (.int p1), .val (.int p2), .val (.int p3), .val (.int p4), .unset, .unset, .unset, .unset, .unset, .unset, .unset, .unset, .unset, .unset, .unset] [])) t → Steps p.tables e below (s₁.setTop (entryFrame m #[(.int p1), (.int p2), (.int p3), (.int p4)] maxLocals)) t := fun t k => castTop (ef_0 m p1 p2 p3 p4) k
  obtain ⟨S0, hS0⟩ : ∃ z, z = s₁.setTop (mkF m 0 #[.val (.int p1), .val (.int p2), .val (.int p3), .val (.int p4), .unset, .unset, .unset, .unset, .unset, .unset, .unset, .unset, .unset, .unset, .unset] []) := ⟨_, rfl⟩
  have r0 : Steps p.tables e below S0 (s₁.setTop (mkF m 0 #[.val (.int p1), .val (.int p2), .val (.int p3), .val (.int p4), .unset, .unset, .unset, .unset, .unset, .unset, .unset, .unset, .unset, .unset, .unset] [])) := by rw [hS0]; exact Steps.refl _
  have r3 : Steps p.tables e below S0 (s₁.setTop (mkF m 15 #[.val (.int p1), .val (.int p2), .val (.int p3), .val (.int p4), .val (.int ((1 : Int32) + (p3 &&& (7 : Int32)))), .val (.int (p4 &&& (3 : Int32))), .unset, .unset, .unset, .unset, .unset, .unset, .unset, .unset, .unset] [(.int (p4 &&& (3 : Int32)))])) := by
    refine r0.trans ?_
    show Steps p.tables e below (s₁.setTop (mkF m 0 #[.val (.int p1), .val (.int p2), .val (.int p3), .val (.int p4), .unset, .unset, .unset, .unset, .unset, .unset, .unset, .unset, .unset, .unset, .unset] [])) _
    refine XS.iconst X0.here hx rfl (hb hby at_0) ?_
    show Steps p.tables e below (s₁.setTop (mkF m 1 #[.val (.int p1), .val (.int p2), .val (.int p3), .val (.int p4), .unset, .unset, .unset, .unset, .unset, .unset, .unset, .unset, .unset, .unset, .unset] [(.int (1 : Int32))])) _
    refine XS.iloadN X0.here hx rfl (hb hby at_1) rfl ?_
    show Steps p.tables e below (s₁.setTop (mkF m 2 #[.val (.int p1), .val (.int p2), .val (.int p3), .val (.int p4), .unset, .unset, .unset, .unset, .unset, .unset, .unset, .unset, .unset, .unset, .unset] [(.int p3), (.int (1 : Int32))])) _
    refine XS.bipush X0.here hx rfl (hb hby at_2) ?_
    show Steps p.tables e below (s₁.setTop (mkF m 4 #[.val (.int p1), .val (.int p2), .val (.int p3), .val (.int p4), .unset, .unset, .unset, .unset, .unset, .unset, .unset, .unset, .unset, .unset, .unset] [(.int (7 : Int32)), (.int p3), (.int (1 : Int32))])) _
    refine XS.iand X0.here hx rfl (hb hby at_4) rfl ?_
    show Steps p.tables e below (s₁.setTop (mkF m 5 #[.val (.int p1), .val (.int p2), .val (.int p3), .val (.int p4), .unset, .unset, .unset, .unset, .unset, .unset, .unset, .unset, .unset, .unset, .unset] [(.int (p3 &&& (7 : Int32))), (.int (1 : Int32))])) _
    refine XS.iadd X0.here hx rfl (hb hby at_5) rfl ?_
    show Steps p.tables e below (s₁.setTop (mkF m 6 #[.val (.int p1), .val (.int p2), .val (.int p3), .val (.int p4), .unset, .unset, .unset, .unset, .unset, .unset, .unset, .unset, .unset, .unset, .unset] [(.int ((1 : Int32) + (p3 &&& (7 : Int32))))])) _
    refine XS.istore X0.here hx rfl (hb hby at_6) rfl (l' := #[.val (.int p1), .val (.int p2), .val (.int p3), .val (.int p4), .val (.int ((1 : Int32) + (p3 &&& (7 : Int32)))), .unset, .unset, .unset, .unset, .unset, .unset, .unset, .unset, .unset, .unset]) rfl ?_
    show Steps p.tables e below (s₁.setTop (mkF m 8 #[.val (.int p1), .val (.int p2), .val (.int p3), .val (.int p4), .val (.int ((1 : Int32) + (p3 &&& (7 : Int32)))), .unset, .unset, .unset, .unset, .unset, .unset, .unset, .unset, .unset, .unset] [])) _
    refine XS.iloadN X0.here hx rfl (hb hby at_8) rfl ?_
    show Steps p.tables e below (s₁.setTop (mkF m 9 #[.val (.int p1), .val (.int p2), .val (.int p3), .val (.int p4), .val (.int ((1 : Int32) + (p3 &&& (7 : Int32)))), .unset, .unset, .unset, .unset, .unset, .unset, .unset, .unset, .unset, .unset] [(.int p4)])) _
    refine XS.iconst X0.here hx rfl (hb hby at_9) ?_
    show Steps p.tables e below (s₁.setTop (mkF m 10 #[.val (.int p1), .val (.int p2), .val (.int p3), .val (.int p4), .val (.int ((1 : Int32) + (p3 &&& (7 : Int32)))), .unset, .unset, .unset, .unset, .unset, .unset, .unset, .unset, .unset, .unset] [(.int (3 : Int32)), (.int p4)])) _
    refine XS.iand X0.here hx rfl (hb hby at_10) rfl ?_
    show Steps p.tables e below (s₁.setTop (mkF m 11 #[.val (.int p1), .val (.int p2), .val (.int p3), .val (.int p4), .val (.int ((1 : Int32) + (p3 &&& (7 : Int32)))), .unset, .unset, .unset, .unset, .unset, .unset, .unset, .unset, .unset, .unset] [(.int (p4 &&& (3 : Int32)))])) _
    refine XS.istore X0.here hx rfl (hb hby at_11) rfl (l' := #[.val (.int p1), .val (.int p2), .val (.int p3), .val (.int p4), .val (.int ((1 : Int32) + (p3 &&& (7 : Int32)))), .val (.int (p4 &&& (3 : Int32))), .unset, .unset, .unset, .unset, .unset, .unset, .unset, .unset, .unset]) rfl ?_
    show Steps p.tables e below (s₁.setTop (mkF m 13 #[.val (.int p1), .val (.int p2), .val (.int p3), .val (.int p4), .val (.int ((1 : Int32) + (p3 &&& (7 : Int32)))), .val (.int (p4 &&& (3 : Int32))), .unset, .unset, .unset, .unset, .unset, .unset, .unset, .unset, .unset] [])) _
    refine XS.iload X0.here hx rfl (hb hby at_13) rfl ?_
    exact Steps.refl _
  obtain ⟨mm, hmm⟩ : ∃ z, z = ((1 : Int32) + (p3 &&& (7 : Int32))) := ⟨_, rfl⟩
  have r4 : Steps p.tables e below S0 (s₁.setTop (mkF m 15 #[.val (.int p1), .val (.int p2), .val (.int p3), .val (.int p4), .val (.int mm), .val (.int (p4 &&& (3 : Int32))), .unset, .unset, .unset, .unset, .unset, .unset, .unset, .unset, .unset] [(.int (p4 &&& (3 : Int32)))])) := by rw [hmm]; exact r3
  obtain ⟨sel, hsel⟩ : ∃ z, z = (p4 &&& (3 : Int32)) := ⟨_, rfl⟩
  have r5 : Steps p.tables e below S0 (s₁.setTop (mkF m 15 #[.val (.int p1), .val (.int p2), .val (.int p3), .val (.int p4), .val (.int mm), .val (.int sel), .unset, .unset, .unset, .unset, .unset, .unset, .unset, .unset, .unset] [(.int sel)])) := by rw [hsel]; exact r4
  have hm := own_mm p3
  rw [← hmm] at hm
  obtain ⟨hm1, hm8⟩ := hm
  have hmz : mm ≠ 0 := fun q => by rw [q] at hm1; exact absurd hm1 (by decide)
  obtain ⟨bs, hb0, hbm, hbe, rM⟩ : ∃ bs : Int32, 0 ≤ bs.toInt ∧ bs.toInt * mm.toInt ≤ 2147483647 ∧ (sel = 1 → ∃ e : Nat, e ≤ 27 ∧ bs.toInt = ((2 ^ e : Nat) : Int)) ∧ Steps p.tables e below S0 (s₁.setTop (mkF m 52 #[.val (.int p1), .val (.int p2), .val (.int p3), .val (.int p4), .val (.int mm), .val (.int sel), .val (.int bs), .unset, .unset, .unset, .unset, .unset, .unset, .unset, .unset] [])) := by
    by_cases hs0 : sel = (0 : Int32)
    · skip
      have r6 : Steps p.tables e below S0 (s₁.setTop (mkF m 52 #[.val (.int p1), .val (.int p2), .val (.int p3), .val (.int p4), .val (.int mm), .val (.int sel), .val (.int (0 : Int32)), .unset, .unset, .unset, .unset, .unset, .unset, .unset, .unset] [])) := by
        refine r5.trans ?_
        show Steps p.tables e below (s₁.setTop (mkF m 15 #[.val (.int p1), .val (.int p2), .val (.int p3), .val (.int p4), .val (.int mm), .val (.int sel), .unset, .unset, .unset, .unset, .unset, .unset, .unset, .unset, .unset] [(.int sel)])) _
        refine XS.ifNo X0.here hx rfl (hb hby at_15) rfl ((if0 _ _).trans (teq hs0).2) ?_
        show Steps p.tables e below (s₁.setTop (mkF m 18 #[.val (.int p1), .val (.int p2), .val (.int p3), .val (.int p4), .val (.int mm), .val (.int sel), .unset, .unset, .unset, .unset, .unset, .unset, .unset, .unset, .unset] [])) _
        refine XS.iconst X0.here hx rfl (hb hby at_18) ?_
        show Steps p.tables e below (s₁.setTop (mkF m 19 #[.val (.int p1), .val (.int p2), .val (.int p3), .val (.int p4), .val (.int mm), .val (.int sel), .unset, .unset, .unset, .unset, .unset, .unset, .unset, .unset, .unset] [(.int (0 : Int32))])) _
        refine XS.istore X0.here hx rfl (hb hby at_19) rfl (l' := #[.val (.int p1), .val (.int p2), .val (.int p3), .val (.int p4), .val (.int mm), .val (.int sel), .val (.int (0 : Int32)), .unset, .unset, .unset, .unset, .unset, .unset, .unset, .unset]) rfl ?_
        show Steps p.tables e below (s₁.setTop (mkF m 21 #[.val (.int p1), .val (.int p2), .val (.int p3), .val (.int p4), .val (.int mm), .val (.int sel), .val (.int (0 : Int32)), .unset, .unset, .unset, .unset, .unset, .unset, .unset, .unset] [])) _
        refine XS.goto X0.here hx rfl (pc0 := 21) (pc' := 52) rfl (hb hby at_21) (by decide) (by decide) ?_
        exact Steps.refl _
      exact ⟨(0 : Int32), by decide, by rw [show (0 : Int32).toInt = 0 by decide]; omega, fun q => absurd (hs0.symm.trans q) (by decide), r6⟩
    · by_cases hs1 : sel = (1 : Int32)
      · skip
        have r7 : Steps p.tables e below S0 (s₁.setTop (mkF m 52 #[.val (.int p1), .val (.int p2), .val (.int p3), .val (.int p4), .val (.int mm), .val (.int sel), .val (.int ((1 : Int32) <<< ((((p4.toUInt32 >>> ((2 : Int32) &&& 31).toUInt32).toInt32) % (28 : Int32)) &&& 31))), .unset, .unset, .unset, .unset, .unset, .unset, .unset, .unset] [])) := by
          refine r5.trans ?_
          show Steps p.tables e below (s₁.setTop (mkF m 15 #[.val (.int p1), .val (.int p2), .val (.int p3), .val (.int p4), .val (.int mm), .val (.int sel), .unset, .unset, .unset, .unset, .unset, .unset, .unset, .unset, .unset] [(.int sel)])) _
          refine XS.ifYes X0.here hx rfl (pc0 := 15) (pc' := 24) rfl (hb hby at_15) rfl ((if0 _ _).trans (feq hs0).2) (by decide) (by decide) ?_
          show Steps p.tables e below (s₁.setTop (mkF m 24 #[.val (.int p1), .val (.int p2), .val (.int p3), .val (.int p4), .val (.int mm), .val (.int sel), .unset, .unset, .unset, .unset, .unset, .unset, .unset, .unset, .unset] [])) _
          refine XS.iload X0.here hx rfl (hb hby at_24) rfl ?_
          show Steps p.tables e below (s₁.setTop (mkF m 26 #[.val (.int p1), .val (.int p2), .val (.int p3), .val (.int p4), .val (.int mm), .val (.int sel), .unset, .unset, .unset, .unset, .unset, .unset, .unset, .unset, .unset] [(.int sel)])) _
          refine XS.iconst X0.here hx rfl (hb hby at_26) ?_
          show Steps p.tables e below (s₁.setTop (mkF m 27 #[.val (.int p1), .val (.int p2), .val (.int p3), .val (.int p4), .val (.int mm), .val (.int sel), .unset, .unset, .unset, .unset, .unset, .unset, .unset, .unset, .unset] [(.int (1 : Int32)), (.int sel)])) _
          refine XS.icmpNo X0.here hx rfl (hb hby at_27) rfl (teq hs1).2 ?_
          show Steps p.tables e below (s₁.setTop (mkF m 30 #[.val (.int p1), .val (.int p2), .val (.int p3), .val (.int p4), .val (.int mm), .val (.int sel), .unset, .unset, .unset, .unset, .unset, .unset, .unset, .unset, .unset] [])) _
          refine XS.iconst X0.here hx rfl (hb hby at_30) ?_
          show Steps p.tables e below (s₁.setTop (mkF m 31 #[.val (.int p1), .val (.int p2), .val (.int p3), .val (.int p4), .val (.int mm), .val (.int sel), .unset, .unset, .unset, .unset, .unset, .unset, .unset, .unset, .unset] [(.int (1 : Int32))])) _
          refine XS.iloadN X0.here hx rfl (hb hby at_31) rfl ?_
          show Steps p.tables e below (s₁.setTop (mkF m 32 #[.val (.int p1), .val (.int p2), .val (.int p3), .val (.int p4), .val (.int mm), .val (.int sel), .unset, .unset, .unset, .unset, .unset, .unset, .unset, .unset, .unset] [(.int p4), (.int (1 : Int32))])) _
          refine XS.iconst X0.here hx rfl (hb hby at_32) ?_
          show Steps p.tables e below (s₁.setTop (mkF m 33 #[.val (.int p1), .val (.int p2), .val (.int p3), .val (.int p4), .val (.int mm), .val (.int sel), .unset, .unset, .unset, .unset, .unset, .unset, .unset, .unset, .unset] [(.int (2 : Int32)), (.int p4), (.int (1 : Int32))])) _
          refine XS.iushr X0.here hx rfl (hb hby at_33) rfl ?_
          show Steps p.tables e below (s₁.setTop (mkF m 34 #[.val (.int p1), .val (.int p2), .val (.int p3), .val (.int p4), .val (.int mm), .val (.int sel), .unset, .unset, .unset, .unset, .unset, .unset, .unset, .unset, .unset] [(.int ((p4.toUInt32 >>> ((2 : Int32) &&& 31).toUInt32).toInt32)), (.int (1 : Int32))])) _
          refine XS.bipush X0.here hx rfl (hb hby at_34) ?_
          show Steps p.tables e below (s₁.setTop (mkF m 36 #[.val (.int p1), .val (.int p2), .val (.int p3), .val (.int p4), .val (.int mm), .val (.int sel), .unset, .unset, .unset, .unset, .unset, .unset, .unset, .unset, .unset] [(.int (28 : Int32)), (.int ((p4.toUInt32 >>> ((2 : Int32) &&& 31).toUInt32).toInt32)), (.int (1 : Int32))])) _
          refine iremM X0 hx rfl (hb hby at_36) rfl (by decide) ?_
          show Steps p.tables e below (s₁.setTop (mkF m 37 #[.val (.int p1), .val (.int p2), .val (.int p3), .val (.int p4), .val (.int mm), .val (.int sel), .unset, .unset, .unset, .unset, .unset, .unset, .unset, .unset, .unset] [(.int (((p4.toUInt32 >>> ((2 : Int32) &&& 31).toUInt32).toInt32) % (28 : Int32))), (.int (1 : Int32))])) _
          refine XS.ishl X0.here hx rfl (hb hby at_37) rfl ?_
          show Steps p.tables e below (s₁.setTop (mkF m 38 #[.val (.int p1), .val (.int p2), .val (.int p3), .val (.int p4), .val (.int mm), .val (.int sel), .unset, .unset, .unset, .unset, .unset, .unset, .unset, .unset, .unset] [(.int ((1 : Int32) <<< ((((p4.toUInt32 >>> ((2 : Int32) &&& 31).toUInt32).toInt32) % (28 : Int32)) &&& 31)))])) _
          refine XS.istore X0.here hx rfl (hb hby at_38) rfl (l' := #[.val (.int p1), .val (.int p2), .val (.int p3), .val (.int p4), .val (.int mm), .val (.int sel), .val (.int ((1 : Int32) <<< ((((p4.toUInt32 >>> ((2 : Int32) &&& 31).toUInt32).toInt32) % (28 : Int32)) &&& 31))), .unset, .unset, .unset, .unset, .unset, .unset, .unset, .unset]) rfl ?_
          show Steps p.tables e below (s₁.setTop (mkF m 40 #[.val (.int p1), .val (.int p2), .val (.int p3), .val (.int p4), .val (.int mm), .val (.int sel), .val (.int ((1 : Int32) <<< ((((p4.toUInt32 >>> ((2 : Int32) &&& 31).toUInt32).toInt32) % (28 : Int32)) &&& 31))), .unset, .unset, .unset, .unset, .unset, .unset, .unset, .unset] [])) _
          refine XS.goto X0.here hx rfl (pc0 := 40) (pc' := 52) rfl (hb hby at_40) (by decide) (by decide) ?_
          exact Steps.refl _
        obtain ⟨q1, q2, q3⟩ := own_pow p4 hm1 hm8
        exact ⟨_, q1, q2, fun _ => q3, r7⟩
      · skip
        have r8 : Steps p.tables e below S0 (s₁.setTop (mkF m 52 #[.val (.int p1), .val (.int p2), .val (.int p3), .val (.int p4), .val (.int mm), .val (.int sel), .val (.int ((p2 &&& (2147483647 : Int32)) / mm)), .unset, .unset, .unset, .unset, .unset, .unset, .unset, .unset] [])) := by
          refine r5.trans ?_
          show Steps p.tables e below (s₁.setTop (mkF m 15 #[.val (.int p1), .val (.int p2), .val (.int p3), .val (.int p4), .val (.int mm), .val (.int sel), .unset, .unset, .unset, .unset, .unset, .unset, .unset, .unset, .unset] [(.int sel)])) _
          refine XS.ifYes X0.here hx rfl (pc0 := 15) (pc' := 24) rfl (hb hby at_15) rfl ((if0 _ _).trans (feq hs0).2) (by decide) (by decide) ?_
          show Steps p.tables e below (s₁.setTop (mkF m 24 #[.val (.int p1), .val (.int p2), .val (.int p3), .val (.int p4), .val (.int mm), .val (.int sel), .unset, .unset, .unset, .unset, .unset, .unset, .unset, .unset, .unset] [])) _
          refine XS.iload X0.here hx rfl (hb hby at_24) rfl ?_
          show Steps p.tables e below (s₁.setTop (mkF m 26 #[.val (.int p1), .val (.int p2), .val (.int p3), .val (.int p4), .val (.int mm), .val (.int sel), .unset, .unset, .unset, .unset, .unset, .unset, .unset, .unset, .unset] [(.int sel)])) _
          refine XS.iconst X0.here hx rfl (hb hby at_26) ?_
          show Steps p.tables e below (s₁.setTop (mkF m 27 #[.val (.int p1), .val (.int p2), .val (.int p3), .val (.int p4), .val (.int mm), .val (.int sel), .unset, .unset, .unset, .unset, .unset, .unset, .unset, .unset, .unset] [(.int (1 : Int32)), (.int sel)])) _
          refine XS.icmpYes X0.here hx rfl (pc0 := 27) (pc' := 43) rfl (hb hby at_27) rfl (feq hs1).2 (by decide) (by decide) ?_
          show Steps p.tables e below (s₁.setTop (mkF m 43 #[.val (.int p1), .val (.int p2), .val (.int p3), .val (.int p4), .val (.int mm), .val (.int sel), .unset, .unset, .unset, .unset, .unset, .unset, .unset, .unset, .unset] [])) _
          refine XS.iloadN X0.here hx rfl (hb hby at_43) rfl ?_
          show Steps p.tables e below (s₁.setTop (mkF m 44 #[.val (.int p1), .val (.int p2), .val (.int p3), .val (.int p4), .val (.int mm), .val (.int sel), .unset, .unset, .unset, .unset, .unset, .unset, .unset, .unset, .unset] [(.int p2)])) _
          refine X0.ldcInt hx hown (mvT hZ (hw _ (List.mem_of_getElem? (i := 0) rfl))) (g := (mkF m 44 #[.val (.int p1), .val (.int p2), .val (.int p3), .val (.int p4), .val (.int mm), .val (.int sel), .unset, .unset, .unset, .unset, .unset, .unset, .unset, .unset, .unset] [(.int p2)])) rfl (hb hby at_44) _ ?_
          show Steps p.tables e below (s₁.setTop (mkF m 46 #[.val (.int p1), .val (.int p2), .val (.int p3), .val (.int p4), .val (.int mm), .val (.int sel), .unset, .unset, .unset, .unset, .unset, .unset, .unset, .unset, .unset] [(.int (2147483647 : Int32)), (.int p2)])) _
          refine XS.iand X0.here hx rfl (hb hby at_46) rfl ?_
          show Steps p.tables e below (s₁.setTop (mkF m 47 #[.val (.int p1), .val (.int p2), .val (.int p3), .val (.int p4), .val (.int mm), .val (.int sel), .unset, .unset, .unset, .unset, .unset, .unset, .unset, .unset, .unset] [(.int (p2 &&& (2147483647 : Int32)))])) _
          refine XS.iload X0.here hx rfl (hb hby at_47) rfl ?_
          show Steps p.tables e below (s₁.setTop (mkF m 49 #[.val (.int p1), .val (.int p2), .val (.int p3), .val (.int p4), .val (.int mm), .val (.int sel), .unset, .unset, .unset, .unset, .unset, .unset, .unset, .unset, .unset] [(.int mm), (.int (p2 &&& (2147483647 : Int32)))])) _
          refine XS.idiv X0.here hx rfl (hb hby at_49) rfl hmz ?_
          show Steps p.tables e below (s₁.setTop (mkF m 50 #[.val (.int p1), .val (.int p2), .val (.int p3), .val (.int p4), .val (.int mm), .val (.int sel), .unset, .unset, .unset, .unset, .unset, .unset, .unset, .unset, .unset] [(.int ((p2 &&& (2147483647 : Int32)) / mm))])) _
          refine XS.istore X0.here hx rfl (hb hby at_50) rfl (l' := #[.val (.int p1), .val (.int p2), .val (.int p3), .val (.int p4), .val (.int mm), .val (.int sel), .val (.int ((p2 &&& (2147483647 : Int32)) / mm)), .unset, .unset, .unset, .unset, .unset, .unset, .unset, .unset]) rfl ?_
          exact Steps.refl _
        obtain ⟨q1, q2⟩ := own_div p2 hm1 hm8
        exact ⟨_, q1, q2, fun q => absurd q hs1, r8⟩
  have r9 : Steps p.tables e below S0 (s₁.setTop (mkF m 66 #[.val (.int p1), .val (.int p2), .val (.int p3), .val (.int p4), .val (.int mm), .val (.int sel), .val (.int bs), .val (.int ((((p1 &&& (2147483647 : Int32)).toInt64) - (((p1 &&& (2147483647 : Int32)).toInt64) / ((bs.toInt64) + (1 : Int64))) * ((bs.toInt64) + (1 : Int64))).toInt32)), .unset, .unset, .unset, .unset, .unset, .unset, .unset] [])) := by
    refine rM.trans ?_
    show Steps p.tables e below (s₁.setTop (mkF m 52 #[.val (.int p1), .val (.int p2), .val (.int p3), .val (.int p4), .val (.int mm), .val (.int sel), .val (.int bs), .unset, .unset, .unset, .unset, .unset, .unset, .unset, .unset] [])) _
    refine XS.iloadN X0.here hx rfl (hb hby at_52) rfl ?_
    show Steps p.tables e below (s₁.setTop (mkF m 53 #[.val (.int p1), .val (.int p2), .val (.int p3), .val (.int p4), .val (.int mm), .val (.int sel), .val (.int bs), .unset, .unset, .unset, .unset, .unset, .unset, .unset, .unset] [(.int p1)])) _
    refine X0.ldcInt hx hown (mvT hZ (hw _ (List.mem_of_getElem? (i := 0) rfl))) (g := (mkF m 53 #[.val (.int p1), .val (.int p2), .val (.int p3), .val (.int p4), .val (.int mm), .val (.int sel), .val (.int bs), .unset, .unset, .unset, .unset, .unset, .unset, .unset, .unset] [(.int p1)])) rfl (hb hby at_53) _ ?_
    show Steps p.tables e below (s₁.setTop (mkF m 55 #[.val (.int p1), .val (.int p2), .val (.int p3), .val (.int p4), .val (.int mm), .val (.int sel), .val (.int bs), .unset, .unset, .unset, .unset, .unset, .unset, .unset, .unset] [(.int (2147483647 : Int32)), (.int p1)])) _
    refine XS.iand X0.here hx rfl (hb hby at_55) rfl ?_
    show Steps p.tables e below (s₁.setTop (mkF m 56 #[.val (.int p1), .val (.int p2), .val (.int p3), .val (.int p4), .val (.int mm), .val (.int sel), .val (.int bs), .unset, .unset, .unset, .unset, .unset, .unset, .unset, .unset] [(.int (p1 &&& (2147483647 : Int32)))])) _
    refine XS.i2l X0.here hx rfl (hb hby at_56) rfl ?_
    show Steps p.tables e below (s₁.setTop (mkF m 57 #[.val (.int p1), .val (.int p2), .val (.int p3), .val (.int p4), .val (.int mm), .val (.int sel), .val (.int bs), .unset, .unset, .unset, .unset, .unset, .unset, .unset, .unset] [(.long ((p1 &&& (2147483647 : Int32)).toInt64))])) _
    refine XS.iload X0.here hx rfl (hb hby at_57) rfl ?_
    show Steps p.tables e below (s₁.setTop (mkF m 59 #[.val (.int p1), .val (.int p2), .val (.int p3), .val (.int p4), .val (.int mm), .val (.int sel), .val (.int bs), .unset, .unset, .unset, .unset, .unset, .unset, .unset, .unset] [(.int bs), (.long ((p1 &&& (2147483647 : Int32)).toInt64))])) _
    refine XS.i2l X0.here hx rfl (hb hby at_59) rfl ?_
    show Steps p.tables e below (s₁.setTop (mkF m 60 #[.val (.int p1), .val (.int p2), .val (.int p3), .val (.int p4), .val (.int mm), .val (.int sel), .val (.int bs), .unset, .unset, .unset, .unset, .unset, .unset, .unset, .unset] [(.long (bs.toInt64)), (.long ((p1 &&& (2147483647 : Int32)).toInt64))])) _
    refine XS.lconst X0.here hx rfl (hb hby at_60) ?_
    show Steps p.tables e below (s₁.setTop (mkF m 61 #[.val (.int p1), .val (.int p2), .val (.int p3), .val (.int p4), .val (.int mm), .val (.int sel), .val (.int bs), .unset, .unset, .unset, .unset, .unset, .unset, .unset, .unset] [(.long (1 : Int64)), (.long (bs.toInt64)), (.long ((p1 &&& (2147483647 : Int32)).toInt64))])) _
    refine XS.ladd X0.here hx rfl (hb hby at_61) rfl ?_
    show Steps p.tables e below (s₁.setTop (mkF m 62 #[.val (.int p1), .val (.int p2), .val (.int p3), .val (.int p4), .val (.int mm), .val (.int sel), .val (.int bs), .unset, .unset, .unset, .unset, .unset, .unset, .unset, .unset] [(.long ((bs.toInt64) + (1 : Int64))), (.long ((p1 &&& (2147483647 : Int32)).toInt64))])) _
    refine XS.lrem X0.here hx rfl (hb hby at_62) rfl (own_nz hb0) ?_
    show Steps p.tables e below (s₁.setTop (mkF m 63 #[.val (.int p1), .val (.int p2), .val (.int p3), .val (.int p4), .val (.int mm), .val (.int sel), .val (.int bs), .unset, .unset, .unset, .unset, .unset, .unset, .unset, .unset] [(.long (((p1 &&& (2147483647 : Int32)).toInt64) - (((p1 &&& (2147483647 : Int32)).toInt64) / ((bs.toInt64) + (1 : Int64))) * ((bs.toInt64) + (1 : Int64))))])) _
    refine XS.l2i X0.here hx rfl (hb hby at_63) rfl ?_
    show Steps p.tables e below (s₁.setTop (mkF m 64 #[.val (.int p1), .val (.int p2), .val (.int p3), .val (.int p4), .val (.int mm), .val (.int sel), .val (.int bs), .unset, .unset, .unset, .unset, .unset, .unset, .unset, .unset] [(.int ((((p1 &&& (2147483647 : Int32)).toInt64) - (((p1 &&& (2147483647 : Int32)).toInt64) / ((bs.toInt64) + (1 : Int64))) * ((bs.toInt64) + (1 : Int64))).toInt32))])) _
    refine XS.istore X0.here hx rfl (hb hby at_64) rfl (l' := #[.val (.int p1), .val (.int p2), .val (.int p3), .val (.int p4), .val (.int mm), .val (.int sel), .val (.int bs), .val (.int ((((p1 &&& (2147483647 : Int32)).toInt64) - (((p1 &&& (2147483647 : Int32)).toInt64) / ((bs.toInt64) + (1 : Int64))) * ((bs.toInt64) + (1 : Int64))).toInt32)), .unset, .unset, .unset, .unset, .unset, .unset, .unset]) rfl ?_
    exact Steps.refl _
  obtain ⟨c0, hc0⟩ : ∃ z, z = ((((p1 &&& (2147483647 : Int32)).toInt64) - (((p1 &&& (2147483647 : Int32)).toInt64) / ((bs.toInt64) + (1 : Int64))) * ((bs.toInt64) + (1 : Int64))).toInt32) := ⟨_, rfl⟩
  have r10 : Steps p.tables e below S0 (s₁.setTop (mkF m 66 #[.val (.int p1), .val (.int p2), .val (.int p3), .val (.int p4), .val (.int mm), .val (.int sel), .val (.int bs), .val (.int c0), .unset, .unset, .unset, .unset, .unset, .unset, .unset] [])) := by rw [hc0]; exact r9
  have r11 : Steps p.tables e below S0 (s₁.setTop (mkF m 73 #[.val (.int p1), .val (.int p2), .val (.int p3), .val (.int p4), .val (.int mm), .val (.int sel), .val (.int bs), .val (.int c0), .val (.int (bs * mm)), .unset, .unset, .unset, .unset, .unset, .unset] [])) := by
    refine r10.trans ?_
    show Steps p.tables e below (s₁.setTop (mkF m 66 #[.val (.int p1), .val (.int p2), .val (.int p3), .val (.int p4), .val (.int mm), .val (.int sel), .val (.int bs), .val (.int c0), .unset, .unset, .unset, .unset, .unset, .unset, .unset] [])) _
    refine XS.iload X0.here hx rfl (hb hby at_66) rfl ?_
    show Steps p.tables e below (s₁.setTop (mkF m 68 #[.val (.int p1), .val (.int p2), .val (.int p3), .val (.int p4), .val (.int mm), .val (.int sel), .val (.int bs), .val (.int c0), .unset, .unset, .unset, .unset, .unset, .unset, .unset] [(.int bs)])) _
    refine XS.iload X0.here hx rfl (hb hby at_68) rfl ?_
    show Steps p.tables e below (s₁.setTop (mkF m 70 #[.val (.int p1), .val (.int p2), .val (.int p3), .val (.int p4), .val (.int mm), .val (.int sel), .val (.int bs), .val (.int c0), .unset, .unset, .unset, .unset, .unset, .unset, .unset] [(.int mm), (.int bs)])) _
    refine XS.imul X0.here hx rfl (hb hby at_70) rfl ?_
    show Steps p.tables e below (s₁.setTop (mkF m 71 #[.val (.int p1), .val (.int p2), .val (.int p3), .val (.int p4), .val (.int mm), .val (.int sel), .val (.int bs), .val (.int c0), .unset, .unset, .unset, .unset, .unset, .unset, .unset] [(.int (bs * mm))])) _
    refine XS.istore X0.here hx rfl (hb hby at_71) rfl (l' := #[.val (.int p1), .val (.int p2), .val (.int p3), .val (.int p4), .val (.int mm), .val (.int sel), .val (.int bs), .val (.int c0), .val (.int (bs * mm)), .unset, .unset, .unset, .unset, .unset, .unset]) rfl ?_
    exact Steps.refl _
  obtain ⟨ln, hln⟩ : ∃ z, z = (bs * mm) := ⟨_, rfl⟩
  have r12 : Steps p.tables e below S0 (s₁.setTop (mkF m 73 #[.val (.int p1), .val (.int p2), .val (.int p3), .val (.int p4), .val (.int mm), .val (.int sel), .val (.int bs), .val (.int c0), .val (.int ln), .unset, .unset, .unset, .unset, .unset, .unset] [])) := by rw [hln]; exact r11
  have r13 : Steps p.tables e below S0 (s₁.setTop (mkF m 80 #[.val (.int p1), .val (.int p2), .val (.int p3), .val (.int p4), .val (.int mm), .val (.int sel), .val (.int bs), .val (.int c0), .val (.int ln), .val (.int (c0 * mm)), .unset, .unset, .unset, .unset, .unset] [])) := by
    refine r12.trans ?_
    show Steps p.tables e below (s₁.setTop (mkF m 73 #[.val (.int p1), .val (.int p2), .val (.int p3), .val (.int p4), .val (.int mm), .val (.int sel), .val (.int bs), .val (.int c0), .val (.int ln), .unset, .unset, .unset, .unset, .unset, .unset] [])) _
    refine XS.iload X0.here hx rfl (hb hby at_73) rfl ?_
    show Steps p.tables e below (s₁.setTop (mkF m 75 #[.val (.int p1), .val (.int p2), .val (.int p3), .val (.int p4), .val (.int mm), .val (.int sel), .val (.int bs), .val (.int c0), .val (.int ln), .unset, .unset, .unset, .unset, .unset, .unset] [(.int c0)])) _
    refine XS.iload X0.here hx rfl (hb hby at_75) rfl ?_
    show Steps p.tables e below (s₁.setTop (mkF m 77 #[.val (.int p1), .val (.int p2), .val (.int p3), .val (.int p4), .val (.int mm), .val (.int sel), .val (.int bs), .val (.int c0), .val (.int ln), .unset, .unset, .unset, .unset, .unset, .unset] [(.int mm), (.int c0)])) _
    refine XS.imul X0.here hx rfl (hb hby at_77) rfl ?_
    show Steps p.tables e below (s₁.setTop (mkF m 78 #[.val (.int p1), .val (.int p2), .val (.int p3), .val (.int p4), .val (.int mm), .val (.int sel), .val (.int bs), .val (.int c0), .val (.int ln), .unset, .unset, .unset, .unset, .unset, .unset] [(.int (c0 * mm))])) _
    refine XS.istore X0.here hx rfl (hb hby at_78) rfl (l' := #[.val (.int p1), .val (.int p2), .val (.int p3), .val (.int p4), .val (.int mm), .val (.int sel), .val (.int bs), .val (.int c0), .val (.int ln), .val (.int (c0 * mm)), .unset, .unset, .unset, .unset, .unset]) rfl ?_
    exact Steps.refl _
  obtain ⟨ct, hct⟩ : ∃ z, z = (c0 * mm) := ⟨_, rfl⟩
  have r14 : Steps p.tables e below S0 (s₁.setTop (mkF m 80 #[.val (.int p1), .val (.int p2), .val (.int p3), .val (.int p4), .val (.int mm), .val (.int sel), .val (.int bs), .val (.int c0), .val (.int ln), .val (.int ct), .unset, .unset, .unset, .unset, .unset] [])) := by rw [hct]; exact r13
  have hc := own_c0 p1 hb0
  rw [← hc0] at hc
  obtain ⟨hc1, hc2⟩ := hc
  have hn := own_nums hm1 hm8 hb0 hbm hc1 hc2
  rw [← hln, ← hct] at hn
  obtain ⟨hn1, hn2, hn3, hn4⟩ := hn
  by_cases hz : bs = (0 : Int32)
  · skip
    have hlz : ln = 0 := Int32.toInt_inj.mp (by rw [hn1, hz, show (0 : Int32).toInt = 0 by decide, Int.zero_mul])
    have r15 : Steps p.tables e below S0 (s₁.setTop (mkF m 84 #[.val (.int p1), .val (.int p2), .val (.int p3), .val (.int p4), .val (.int mm), .val (.int sel), .val (.int bs), .val (.int c0), .val (.int ln), .val (.int ct), .unset, .unset, .unset, .unset, .unset] [(.int ln), (.int ct)])) := by
      refine r14.trans ?_
      show Steps p.tables e below (s₁.setTop (mkF m 80 #[.val (.int p1), .val (.int p2), .val (.int p3), .val (.int p4), .val (.int mm), .val (.int sel), .val (.int bs), .val (.int c0), .val (.int ln), .val (.int ct), .unset, .unset, .unset, .unset, .unset] [])) _
      refine XS.iload X0.here hx rfl (hb hby at_80) rfl ?_
      show Steps p.tables e below (s₁.setTop (mkF m 82 #[.val (.int p1), .val (.int p2), .val (.int p3), .val (.int p4), .val (.int mm), .val (.int sel), .val (.int bs), .val (.int c0), .val (.int ln), .val (.int ct), .unset, .unset, .unset, .unset, .unset] [(.int ct)])) _
      refine XS.iload X0.here hx rfl (hb hby at_82) rfl ?_
      exact Steps.refl _
    obtain ⟨_, _, ⟨T16, L16, k16, n16⟩, -, X16, ⟨Lc16, hQ16, l16, y16, z16⟩, st16⟩ := Jvm.LawKit.callS X0 hx (y := (⟨"com/example/sentence_hunt/sentencehunt/QueryLikelihood", "sentenceProbability", "(II)D"⟩ : MethodName)) hown (mvT hZ (hw _ (List.mem_of_getElem? (i := 1) rfl))) (mvT hZ (hw _ (List.mem_of_getElem? (i := 2) rfl))) (mvT hZ (hw _ (List.mem_of_getElem? (i := 3) rfl))) (mvT hZ (hw _ (List.mem_of_getElem? (i := 4) rfl))) (by decide) (backOf (W := 0) (rm1a l Z a0 hw [] ct ln h0 n0 Z0 hlz) hZ (hw _ (List.mem_of_getElem? (i := 4) rfl)) (hw _ (List.mem_of_getElem? (i := 3) rfl)) (by decide) (by decide)) (g := (mkF m 84 #[.val (.int p1), .val (.int p2), .val (.int p3), .val (.int p4), .val (.int mm), .val (.int sel), .val (.int bs), .val (.int c0), .val (.int ln), .val (.int ct), .unset, .unset, .unset, .unset, .unset] [(.int ln), (.int ct)])) rfl (by rw [hml]; rfl) (argsL := [(.int ct), (.int ln)]) (rest := []) (lenOf pd_0 rfl) rfl (by show 2 * 0 + _ ≤ _; exact Nat.le_of_eq rfl) (hb hby at_84) (fun _ _ => ⟨rfl, e0, (by decide : 0 + 0 ≤ _), (by decide : 0 + 0 ≤ _)⟩)
    dsimp only [Pt.U, Pt.locs, Pt.cells, Pt.slots] at X16 l16 y16 z16 st16 hQ16
    subst l16 y16 z16
    obtain ⟨rfl, Nq16, e16⟩ := hQ16
    have N16 := Fr.app N0 Nq16
    have r17 : Steps p.tables e below S0 (T16.setTop (mkF m 87 #[.val (.int p1), .val (.int p2), .val (.int p3), .val (.int p4), .val (.int mm), .val (.int sel), .val (.int bs), .val (.int c0), .val (.int ln), .val (.int ct), .unset, .unset, .unset, .unset, .unset] [(.double FP.dconst0)])) := r15.trans (st16 _ (Steps.refl _))
    have r18 : Steps p.tables e below S0 (T16.setTop (mkF m 93 #[.val (.int p1), .val (.int p2), .val (.int p3), .val (.int p4), .val (.int mm), .val (.int sel), .val (.int bs), .val (.int c0), .val (.int ln), .val (.int ct), .val (.double FP.dconst0), .second, .unset, .unset, .unset] [(.int bs), (.int c0)])) := by
      refine r17.trans ?_
      show Steps p.tables e below (T16.setTop (mkF m 87 #[.val (.int p1), .val (.int p2), .val (.int p3), .val (.int p4), .val (.int mm), .val (.int sel), .val (.int bs), .val (.int c0), .val (.int ln), .val (.int ct), .unset, .unset, .unset, .unset, .unset] [(.double FP.dconst0)])) _
      refine XS.dstore X16.here hx rfl (hb hby at_87) rfl (l' := #[.val (.int p1), .val (.int p2), .val (.int p3), .val (.int p4), .val (.int mm), .val (.int sel), .val (.int bs), .val (.int c0), .val (.int ln), .val (.int ct), .val (.double FP.dconst0), .second, .unset, .unset, .unset]) rfl ?_
      show Steps p.tables e below (T16.setTop (mkF m 89 #[.val (.int p1), .val (.int p2), .val (.int p3), .val (.int p4), .val (.int mm), .val (.int sel), .val (.int bs), .val (.int c0), .val (.int ln), .val (.int ct), .val (.double FP.dconst0), .second, .unset, .unset, .unset] [])) _
      refine XS.iload X16.here hx rfl (hb hby at_89) rfl ?_
      show Steps p.tables e below (T16.setTop (mkF m 91 #[.val (.int p1), .val (.int p2), .val (.int p3), .val (.int p4), .val (.int mm), .val (.int sel), .val (.int bs), .val (.int c0), .val (.int ln), .val (.int ct), .val (.double FP.dconst0), .second, .unset, .unset, .unset] [(.int c0)])) _
      refine XS.iload X16.here hx rfl (hb hby at_91) rfl ?_
      exact Steps.refl _
    obtain ⟨_, _, ⟨T19, L19, k19, n19⟩, -, X19, ⟨Lc19, hQ19, l19, y19, z19⟩, st19⟩ := Jvm.LawKit.callS X16 hx (y := (⟨"com/example/sentence_hunt/sentencehunt/QueryLikelihood", "sentenceProbability", "(II)D"⟩ : MethodName)) hown (mvT hZ (hw _ (List.mem_of_getElem? (i := 1) rfl))) (mvT hZ (hw _ (List.mem_of_getElem? (i := 2) rfl))) (mvT hZ (hw _ (List.mem_of_getElem? (i := 3) rfl))) (mvT hZ (hw _ (List.mem_of_getElem? (i := 4) rfl))) (by decide) (backOf (W := 0) (rm1a l Z a0 hw [] c0 bs h0 n0 Z0 hz) hZ (hw _ (List.mem_of_getElem? (i := 4) rfl)) (hw _ (List.mem_of_getElem? (i := 3) rfl)) (by decide) (by decide)) (g := (mkF m 93 #[.val (.int p1), .val (.int p2), .val (.int p3), .val (.int p4), .val (.int mm), .val (.int sel), .val (.int bs), .val (.int c0), .val (.int ln), .val (.int ct), .val (.double FP.dconst0), .second, .unset, .unset, .unset] [(.int bs), (.int c0)])) rfl (by rw [hml]; rfl) (argsL := [(.int c0), (.int bs)]) (rest := []) (lenOf pd_0 rfl) rfl (by show 2 * 0 + _ ≤ _; exact Nat.le_of_eq rfl) (hb hby at_93) (fun _ _ => ⟨rfl, e16, (by decide : (0 + 0) + 0 ≤ _), (by decide : (0 + 0) + 0 ≤ _)⟩)
    dsimp only [Pt.U, Pt.locs, Pt.cells, Pt.slots] at X19 l19 y19 z19 st19 hQ19
    subst l19 y19 z19
    obtain ⟨rfl, Nq19, e19⟩ := hQ19
    have N19 := Fr.app N16 Nq19
    have r20 : Steps p.tables e below S0 (T19.setTop (mkF m 96 #[.val (.int p1), .val (.int p2), .val (.int p3), .val (.int p4), .val (.int mm), .val (.int sel), .val (.int bs), .val (.int c0), .val (.int ln), .val (.int ct), .val (.double FP.dconst0), .second, .unset, .unset, .unset] [(.double FP.dconst0)])) := r18.trans (st19 _ (Steps.refl _))
    have r21 : Steps p.tables e below S0 (T19.setTop (mkF m 122 #[.val (.int p1), .val (.int p2), .val (.int p3), .val (.int p4), .val (.int mm), .val (.int sel), .val (.int bs), .val (.int c0), .val (.int ln), .val (.int ct), .val (.double FP.dconst0), .second, .val (.double FP.dconst0), .second, .unset] [(.int (1 : Int32))])) := by
      refine r20.trans ?_
      show Steps p.tables e below (T19.setTop (mkF m 96 #[.val (.int p1), .val (.int p2), .val (.int p3), .val (.int p4), .val (.int mm), .val (.int sel), .val (.int bs), .val (.int c0), .val (.int ln), .val (.int ct), .val (.double FP.dconst0), .second, .unset, .unset, .unset] [(.double FP.dconst0)])) _
      refine XS.dstore X19.here hx rfl (hb hby at_96) rfl (l' := #[.val (.int p1), .val (.int p2), .val (.int p3), .val (.int p4), .val (.int mm), .val (.int sel), .val (.int bs), .val (.int c0), .val (.int ln), .val (.int ct), .val (.double FP.dconst0), .second, .val (.double FP.dconst0), .second, .unset]) rfl ?_
      show Steps p.tables e below (T19.setTop (mkF m 98 #[.val (.int p1), .val (.int p2), .val (.int p3), .val (.int p4), .val (.int mm), .val (.int sel), .val (.int bs), .val (.int c0), .val (.int ln), .val (.int ct), .val (.double FP.dconst0), .second, .val (.double FP.dconst0), .second, .unset] [])) _
      refine XS.iload X19.here hx rfl (hb hby at_98) rfl ?_
      show Steps p.tables e below (T19.setTop (mkF m 100 #[.val (.int p1), .val (.int p2), .val (.int p3), .val (.int p4), .val (.int mm), .val (.int sel), .val (.int bs), .val (.int c0), .val (.int ln), .val (.int ct), .val (.double FP.dconst0), .second, .val (.double FP.dconst0), .second, .unset] [(.int bs)])) _
      refine XS.ifNo X19.here hx rfl (hb hby at_100) rfl ((if0 _ _).trans (teq hz).2) ?_
      show Steps p.tables e below (T19.setTop (mkF m 103 #[.val (.int p1), .val (.int p2), .val (.int p3), .val (.int p4), .val (.int mm), .val (.int sel), .val (.int bs), .val (.int c0), .val (.int ln), .val (.int ct), .val (.double FP.dconst0), .second, .val (.double FP.dconst0), .second, .unset] [])) _
      refine XS.dload X19.here hx rfl (hb hby at_103) rfl ?_
      show Steps p.tables e below (T19.setTop (mkF m 105 #[.val (.int p1), .val (.int p2), .val (.int p3), .val (.int p4), .val (.int mm), .val (.int sel), .val (.int bs), .val (.int c0), .val (.int ln), .val (.int ct), .val (.double FP.dconst0), .second, .val (.double FP.dconst0), .second, .unset] [(.double FP.dconst0)])) _
      refine XS.dconst0 X19.here hx rfl (hb hby at_105) rfl ?_
      show Steps p.tables e below (T19.setTop (mkF m 106 #[.val (.int p1), .val (.int p2), .val (.int p3), .val (.int p4), .val (.int mm), .val (.int sel), .val (.int bs), .val (.int c0), .val (.int ln), .val (.int ct), .val (.double FP.dconst0), .second, .val (.double FP.dconst0), .second, .unset] [(.double FP.dconst0), (.double FP.dconst0)])) _
      refine XS.dcmpS X19.here hx rfl (hb hby at_106) rfl (show cmpValue (FP.dcmp FP.dconst0 FP.dconst0) .l = (0 : Int32) from (dcmpV_self dy_zero.noNaN _)) ?_
      show Steps p.tables e below (T19.setTop (mkF m 107 #[.val (.int p1), .val (.int p2), .val (.int p3), .val (.int p4), .val (.int mm), .val (.int sel), .val (.int bs), .val (.int c0), .val (.int ln), .val (.int ct), .val (.double FP.dconst0), .second, .val (.double FP.dconst0), .second, .unset] [(.int (0 : Int32))])) _
      refine XS.ifNo X19.here hx rfl (hb hby at_107) rfl ((if0 _ _).trans (teq rfl).2) ?_
      show Steps p.tables e below (T19.setTop (mkF m 110 #[.val (.int p1), .val (.int p2), .val (.int p3), .val (.int p4), .val (.int mm), .val (.int sel), .val (.int bs), .val (.int c0), .val (.int ln), .val (.int ct), .val (.double FP.dconst0), .second, .val (.double FP.dconst0), .second, .unset] [])) _
      refine XS.dload X19.here hx rfl (hb hby at_110) rfl ?_
      show Steps p.tables e below (T19.setTop (mkF m 112 #[.val (.int p1), .val (.int p2), .val (.int p3), .val (.int p4), .val (.int mm), .val (.int sel), .val (.int bs), .val (.int c0), .val (.int ln), .val (.int ct), .val (.double FP.dconst0), .second, .val (.double FP.dconst0), .second, .unset] [(.double FP.dconst0)])) _
      refine XS.dconst0 X19.here hx rfl (hb hby at_112) rfl ?_
      show Steps p.tables e below (T19.setTop (mkF m 113 #[.val (.int p1), .val (.int p2), .val (.int p3), .val (.int p4), .val (.int mm), .val (.int sel), .val (.int bs), .val (.int c0), .val (.int ln), .val (.int ct), .val (.double FP.dconst0), .second, .val (.double FP.dconst0), .second, .unset] [(.double FP.dconst0), (.double FP.dconst0)])) _
      refine XS.dcmpS X19.here hx rfl (hb hby at_113) rfl (show cmpValue (FP.dcmp FP.dconst0 FP.dconst0) .l = (0 : Int32) from (dcmpV_self dy_zero.noNaN _)) ?_
      show Steps p.tables e below (T19.setTop (mkF m 114 #[.val (.int p1), .val (.int p2), .val (.int p3), .val (.int p4), .val (.int mm), .val (.int sel), .val (.int bs), .val (.int c0), .val (.int ln), .val (.int ct), .val (.double FP.dconst0), .second, .val (.double FP.dconst0), .second, .unset] [(.int (0 : Int32))])) _
      refine XS.ifNo X19.here hx rfl (hb hby at_114) rfl ((if0 _ _).trans (teq rfl).2) ?_
      show Steps p.tables e below (T19.setTop (mkF m 117 #[.val (.int p1), .val (.int p2), .val (.int p3), .val (.int p4), .val (.int mm), .val (.int sel), .val (.int bs), .val (.int c0), .val (.int ln), .val (.int ct), .val (.double FP.dconst0), .second, .val (.double FP.dconst0), .second, .unset] [])) _
      refine XS.iconst X19.here hx rfl (hb hby at_117) ?_
      show Steps p.tables e below (T19.setTop (mkF m 118 #[.val (.int p1), .val (.int p2), .val (.int p3), .val (.int p4), .val (.int mm), .val (.int sel), .val (.int bs), .val (.int c0), .val (.int ln), .val (.int ct), .val (.double FP.dconst0), .second, .val (.double FP.dconst0), .second, .unset] [(.int (1 : Int32))])) _
      refine XS.goto X19.here hx rfl (pc0 := 118) (pc' := 122) rfl (hb hby at_118) (by decide) (by decide) ?_
      exact Steps.refl _
    obtain ⟨fs, hr, hrun, hended, hW, hsame⟩ := X19.leave (v := some (.int (1 : Int32))) (fun h => by rw [Bd.returns] at h; cases h)
    refine ⟨_, _, pre0 _ ?_, hrun, hended, _, _, rfl, ?_, ⟨_, rfl⟩, hW, hsame.mono (by decide) (by decide)⟩
    · rw [← hS0]
      refine r21.trans ?_
      show Steps p.tables e below (T19.setTop (mkF m 122 #[.val (.int p1), .val (.int p2), .val (.int p3), .val (.int p4), .val (.int mm), .val (.int sel), .val (.int bs), .val (.int c0), .val (.int ln), .val (.int ct), .val (.double FP.dconst0), .second, .val (.double FP.dconst0), .second, .unset] [(.int (1 : Int32))])) _
      exact retB X19 hx Bd.returns (by first | exact Or.inr rfl | exact Or.inl rfl | (split <;> simp)) (hb hby at_122) hr
    · exact ⟨rfl, N19⟩
  · skip
    have hbp : 0 < bs.toInt := by have : bs.toInt ≠ 0 := fun q => hz (Int32.toInt_inj.mp q); omega
    have hlp : 0 < ln.toInt := by rw [hn1]; exact Int.mul_pos hbp (by omega)
    have hlz : ¬ ln = 0 := fun q => by rw [q] at hlp; exact absurd hlp (by decide)
    have r22 : Steps p.tables e below S0 (s₁.setTop (mkF m 84 #[.val (.int p1), .val (.int p2), .val (.int p3), .val (.int p4), .val (.int mm), .val (.int sel), .val (.int bs), .val (.int c0), .val (.int ln), .val (.int ct), .unset, .unset, .unset, .unset, .unset] [(.int ln), (.int ct)])) := by
      refine r14.trans ?_
      show Steps p.tables e below (s₁.setTop (mkF m 80 #[.val (.int p1), .val (.int p2), .val (.int p3), .val (.int p4), .val (.int mm), .val (.int sel), .val (.int bs), .val (.int c0), .val (.int ln), .val (.int ct), .unset, .unset, .unset, .unset, .unset] [])) _
      refine XS.iload X0.here hx rfl (hb hby at_80) rfl ?_
      show Steps p.tables e below (s₁.setTop (mkF m 82 #[.val (.int p1), .val (.int p2), .val (.int p3), .val (.int p4), .val (.int mm), .val (.int sel), .val (.int bs), .val (.int c0), .val (.int ln), .val (.int ct), .unset, .unset, .unset, .unset, .unset] [(.int ct)])) _
      refine XS.iload X0.here hx rfl (hb hby at_82) rfl ?_
      exact Steps.refl _
    obtain ⟨_, _, ⟨T23, L23, k23, n23⟩, -, X23, ⟨Lc23, hQ23, l23, y23, z23⟩, st23⟩ := Jvm.LawKit.callS X0 hx (y := (⟨"com/example/sentence_hunt/sentencehunt/QueryLikelihood", "sentenceProbability", "(II)D"⟩ : MethodName)) hown (mvT hZ (hw _ (List.mem_of_getElem? (i := 1) rfl))) (mvT hZ (hw _ (List.mem_of_getElem? (i := 2) rfl))) (mvT hZ (hw _ (List.mem_of_getElem? (i := 3) rfl))) (mvT hZ (hw _ (List.mem_of_getElem? (i := 4) rfl))) (by decide) (backOf (W := 0) (rm1b l Z a0 hw [] ct ln h0 n0 Z0 hlz) hZ (hw _ (List.mem_of_getElem? (i := 4) rfl)) (hw _ (List.mem_of_getElem? (i := 3) rfl)) (by decide) (by decide)) (g := (mkF m 84 #[.val (.int p1), .val (.int p2), .val (.int p3), .val (.int p4), .val (.int mm), .val (.int sel), .val (.int bs), .val (.int c0), .val (.int ln), .val (.int ct), .unset, .unset, .unset, .unset, .unset] [(.int ln), (.int ct)])) rfl (by rw [hml]; rfl) (argsL := [(.int ct), (.int ln)]) (rest := []) (lenOf pd_0 rfl) rfl (by show 2 * 0 + _ ≤ _; exact Nat.le_of_eq rfl) (hb hby at_84) (fun _ _ => ⟨rfl, e0, (by decide : 0 + 0 ≤ _), (by decide : 0 + 0 ≤ _)⟩)
    dsimp only [Pt.U, Pt.locs, Pt.cells, Pt.slots] at X23 l23 y23 z23 st23 hQ23
    subst l23 y23 z23
    obtain ⟨rfl, Nq23, e23⟩ := hQ23
    have N23 := Fr.app N0 Nq23
    have r24 : Steps p.tables e below S0 (T23.setTop (mkF m 87 #[.val (.int p1), .val (.int p2), .val (.int p3), .val (.int p4), .val (.int mm), .val (.int sel), .val (.int bs), .val (.int c0), .val (.int ln), .val (.int ct), .unset, .unset, .unset, .unset, .unset] [(.double (FP.ddiv (FP.i2d ct) (FP.i2d ln)))])) := r22.trans (st23 _ (Steps.refl _))
    obtain ⟨pp, hpp⟩ : ∃ z, z = (FP.ddiv (FP.i2d ct) (FP.i2d ln)) := ⟨_, rfl⟩
    have r25 : Steps p.tables e below S0 (T23.setTop (mkF m 87 #[.val (.int p1), .val (.int p2), .val (.int p3), .val (.int p4), .val (.int mm), .val (.int sel), .val (.int bs), .val (.int c0), .val (.int ln), .val (.int ct), .unset, .unset, .unset, .unset, .unset] [(.double pp)])) := by rw [hpp]; exact r24
    have r26 : Steps p.tables e below S0 (T23.setTop (mkF m 93 #[.val (.int p1), .val (.int p2), .val (.int p3), .val (.int p4), .val (.int mm), .val (.int sel), .val (.int bs), .val (.int c0), .val (.int ln), .val (.int ct), .val (.double pp), .second, .unset, .unset, .unset] [(.int bs), (.int c0)])) := by
      refine r25.trans ?_
      show Steps p.tables e below (T23.setTop (mkF m 87 #[.val (.int p1), .val (.int p2), .val (.int p3), .val (.int p4), .val (.int mm), .val (.int sel), .val (.int bs), .val (.int c0), .val (.int ln), .val (.int ct), .unset, .unset, .unset, .unset, .unset] [(.double pp)])) _
      refine XS.dstore X23.here hx rfl (hb hby at_87) rfl (l' := #[.val (.int p1), .val (.int p2), .val (.int p3), .val (.int p4), .val (.int mm), .val (.int sel), .val (.int bs), .val (.int c0), .val (.int ln), .val (.int ct), .val (.double pp), .second, .unset, .unset, .unset]) rfl ?_
      show Steps p.tables e below (T23.setTop (mkF m 89 #[.val (.int p1), .val (.int p2), .val (.int p3), .val (.int p4), .val (.int mm), .val (.int sel), .val (.int bs), .val (.int c0), .val (.int ln), .val (.int ct), .val (.double pp), .second, .unset, .unset, .unset] [])) _
      refine XS.iload X23.here hx rfl (hb hby at_89) rfl ?_
      show Steps p.tables e below (T23.setTop (mkF m 91 #[.val (.int p1), .val (.int p2), .val (.int p3), .val (.int p4), .val (.int mm), .val (.int sel), .val (.int bs), .val (.int c0), .val (.int ln), .val (.int ct), .val (.double pp), .second, .unset, .unset, .unset] [(.int c0)])) _
      refine XS.iload X23.here hx rfl (hb hby at_91) rfl ?_
      exact Steps.refl _
    obtain ⟨_, _, ⟨T27, L27, k27, n27⟩, -, X27, ⟨Lc27, hQ27, l27, y27, z27⟩, st27⟩ := Jvm.LawKit.callS X23 hx (y := (⟨"com/example/sentence_hunt/sentencehunt/QueryLikelihood", "sentenceProbability", "(II)D"⟩ : MethodName)) hown (mvT hZ (hw _ (List.mem_of_getElem? (i := 1) rfl))) (mvT hZ (hw _ (List.mem_of_getElem? (i := 2) rfl))) (mvT hZ (hw _ (List.mem_of_getElem? (i := 3) rfl))) (mvT hZ (hw _ (List.mem_of_getElem? (i := 4) rfl))) (by decide) (backOf (W := 0) (rm1b l Z a0 hw [] c0 bs h0 n0 Z0 hz) hZ (hw _ (List.mem_of_getElem? (i := 4) rfl)) (hw _ (List.mem_of_getElem? (i := 3) rfl)) (by decide) (by decide)) (g := (mkF m 93 #[.val (.int p1), .val (.int p2), .val (.int p3), .val (.int p4), .val (.int mm), .val (.int sel), .val (.int bs), .val (.int c0), .val (.int ln), .val (.int ct), .val (.double pp), .second, .unset, .unset, .unset] [(.int bs), (.int c0)])) rfl (by rw [hml]; rfl) (argsL := [(.int c0), (.int bs)]) (rest := []) (lenOf pd_0 rfl) rfl (by show 2 * 0 + _ ≤ _; exact Nat.le_of_eq rfl) (hb hby at_93) (fun _ _ => ⟨rfl, e23, (by decide : (0 + 0) + 0 ≤ _), (by decide : (0 + 0) + 0 ≤ _)⟩)
    dsimp only [Pt.U, Pt.locs, Pt.cells, Pt.slots] at X27 l27 y27 z27 st27 hQ27
    subst l27 y27 z27
    obtain ⟨rfl, Nq27, e27⟩ := hQ27
    have N27 := Fr.app N23 Nq27
    have r28 : Steps p.tables e below S0 (T27.setTop (mkF m 96 #[.val (.int p1), .val (.int p2), .val (.int p3), .val (.int p4), .val (.int mm), .val (.int sel), .val (.int bs), .val (.int c0), .val (.int ln), .val (.int ct), .val (.double pp), .second, .unset, .unset, .unset] [(.double (FP.ddiv (FP.i2d c0) (FP.i2d bs)))])) := r26.trans (st27 _ (Steps.refl _))
    obtain ⟨qq, hqq⟩ : ∃ z, z = (FP.ddiv (FP.i2d c0) (FP.i2d bs)) := ⟨_, rfl⟩
    have r29 : Steps p.tables e below S0 (T27.setTop (mkF m 96 #[.val (.int p1), .val (.int p2), .val (.int p3), .val (.int p4), .val (.int mm), .val (.int sel), .val (.int bs), .val (.int c0), .val (.int ln), .val (.int ct), .val (.double pp), .second, .unset, .unset, .unset] [(.double qq)])) := by rw [hqq]; exact r28
    obtain ⟨f0, f1, f2, f3, f4, f5, f6⟩ := own_main hbp hlp hm1 hn1 hn2 hn3 hn4 hpp hqq
    have r30 : Steps p.tables e below S0 (T27.setTop (mkF m 141 #[.val (.int p1), .val (.int p2), .val (.int p3), .val (.int p4), .val (.int mm), .val (.int sel), .val (.int bs), .val (.int c0), .val (.int ln), .val (.int ct), .val (.double pp), .second, .val (.double qq), .second, .unset] [(.int (cmpValue (FP.dcmp pp FP.dconst0) .l))])) := by
      refine r29.trans ?_
      show Steps p.tables e below (T27.setTop (mkF m 96 #[.val (.int p1), .val (.int p2), .val (.int p3), .val (.int p4), .val (.int mm), .val (.int sel), .val (.int bs), .val (.int c0), .val (.int ln), .val (.int ct), .val (.double pp), .second, .unset, .unset, .unset] [(.double qq)])) _
      refine XS.dstore X27.here hx rfl (hb hby at_96) rfl (l' := #[.val (.int p1), .val (.int p2), .val (.int p3), .val (.int p4), .val (.int mm), .val (.int sel), .val (.int bs), .val (.int c0), .val (.int ln), .val (.int ct), .val (.double pp), .second, .val (.double qq), .second, .unset]) rfl ?_
      show Steps p.tables e below (T27.setTop (mkF m 98 #[.val (.int p1), .val (.int p2), .val (.int p3), .val (.int p4), .val (.int mm), .val (.int sel), .val (.int bs), .val (.int c0), .val (.int ln), .val (.int ct), .val (.double pp), .second, .val (.double qq), .second, .unset] [])) _
      refine XS.iload X27.here hx rfl (hb hby at_98) rfl ?_
      show Steps p.tables e below (T27.setTop (mkF m 100 #[.val (.int p1), .val (.int p2), .val (.int p3), .val (.int p4), .val (.int mm), .val (.int sel), .val (.int bs), .val (.int c0), .val (.int ln), .val (.int ct), .val (.double pp), .second, .val (.double qq), .second, .unset] [(.int bs)])) _
      refine XS.ifYes X27.here hx rfl (pc0 := 100) (pc' := 123) rfl (hb hby at_100) rfl ((if0 _ _).trans (feq hz).2) (by decide) (by decide) ?_
      show Steps p.tables e below (T27.setTop (mkF m 123 #[.val (.int p1), .val (.int p2), .val (.int p3), .val (.int p4), .val (.int mm), .val (.int sel), .val (.int bs), .val (.int c0), .val (.int ln), .val (.int ct), .val (.double pp), .second, .val (.double qq), .second, .unset] [])) _
      refine XS.dconst0 X27.here hx rfl (hb hby at_123) rfl ?_
      show Steps p.tables e below (T27.setTop (mkF m 124 #[.val (.int p1), .val (.int p2), .val (.int p3), .val (.int p4), .val (.int mm), .val (.int sel), .val (.int bs), .val (.int c0), .val (.int ln), .val (.int ct), .val (.double pp), .second, .val (.double qq), .second, .unset] [(.double FP.dconst0)])) _
      refine XS.dload X27.here hx rfl (hb hby at_124) rfl ?_
      show Steps p.tables e below (T27.setTop (mkF m 126 #[.val (.int p1), .val (.int p2), .val (.int p3), .val (.int p4), .val (.int mm), .val (.int sel), .val (.int bs), .val (.int c0), .val (.int ln), .val (.int ct), .val (.double pp), .second, .val (.double qq), .second, .unset] [(.double pp), (.double FP.dconst0)])) _
      refine XS.dcmpS X27.here hx rfl (hb hby at_126) rfl rfl ?_
      show Steps p.tables e below (T27.setTop (mkF m 127 #[.val (.int p1), .val (.int p2), .val (.int p3), .val (.int p4), .val (.int mm), .val (.int sel), .val (.int bs), .val (.int c0), .val (.int ln), .val (.int ct), .val (.double pp), .second, .val (.double qq), .second, .unset] [(.int (cmpValue (FP.dcmp FP.dconst0 pp) .g))])) _
      refine XS.ifNo X27.here hx rfl (hb hby at_127) rfl ((if0 _ _).trans (flt f2).2.2.1) ?_
      show Steps p.tables e below (T27.setTop (mkF m 130 #[.val (.int p1), .val (.int p2), .val (.int p3), .val (.int p4), .val (.int mm), .val (.int sel), .val (.int bs), .val (.int c0), .val (.int ln), .val (.int ct), .val (.double pp), .second, .val (.double qq), .second, .unset] [])) _
      refine XS.dload X27.here hx rfl (hb hby at_130) rfl ?_
      show Steps p.tables e below (T27.setTop (mkF m 132 #[.val (.int p1), .val (.int p2), .val (.int p3), .val (.int p4), .val (.int mm), .val (.int sel), .val (.int bs), .val (.int c0), .val (.int ln), .val (.int ct), .val (.double pp), .second, .val (.double qq), .second, .unset] [(.double pp)])) _
      refine XS.dconst1 X27.here hx rfl (hb hby at_132) rfl ?_
      show Steps p.tables e below (T27.setTop (mkF m 133 #[.val (.int p1), .val (.int p2), .val (.int p3), .val (.int p4), .val (.int mm), .val (.int sel), .val (.int bs), .val (.int c0), .val (.int ln), .val (.int ct), .val (.double pp), .second, .val (.double qq), .second, .unset] [(.double FP.dconst1), (.double pp)])) _
      refine XS.dcmpS X27.here hx rfl (hb hby at_133) rfl rfl ?_
      show Steps p.tables e below (T27.setTop (mkF m 134 #[.val (.int p1), .val (.int p2), .val (.int p3), .val (.int p4), .val (.int mm), .val (.int sel), .val (.int bs), .val (.int c0), .val (.int ln), .val (.int ct), .val (.double pp), .second, .val (.double qq), .second, .unset] [(.int (cmpValue (FP.dcmp pp FP.dconst1) .g))])) _
      refine XS.ifNo X27.here hx rfl (hb hby at_134) rfl ((if0 _ _).trans (flt f3).2.2.1) ?_
      show Steps p.tables e below (T27.setTop (mkF m 137 #[.val (.int p1), .val (.int p2), .val (.int p3), .val (.int p4), .val (.int mm), .val (.int sel), .val (.int bs), .val (.int c0), .val (.int ln), .val (.int ct), .val (.double pp), .second, .val (.double qq), .second, .unset] [])) _
      refine XS.dload X27.here hx rfl (hb hby at_137) rfl ?_
      show Steps p.tables e below (T27.setTop (mkF m 139 #[.val (.int p1), .val (.int p2), .val (.int p3), .val (.int p4), .val (.int mm), .val (.int sel), .val (.int bs), .val (.int c0), .val (.int ln), .val (.int ct), .val (.double pp), .second, .val (.double qq), .second, .unset] [(.double pp)])) _
      refine XS.dconst0 X27.here hx rfl (hb hby at_139) rfl ?_
      show Steps p.tables e below (T27.setTop (mkF m 140 #[.val (.int p1), .val (.int p2), .val (.int p3), .val (.int p4), .val (.int mm), .val (.int sel), .val (.int bs), .val (.int c0), .val (.int ln), .val (.int ct), .val (.double pp), .second, .val (.double qq), .second, .unset] [(.double FP.dconst0), (.double pp)])) _
      refine XS.dcmpS X27.here hx rfl (hb hby at_140) rfl rfl ?_
      exact Steps.refl _
    have r34 : Steps p.tables e below S0 (T27.setTop (mkF m 149 #[.val (.int p1), .val (.int p2), .val (.int p3), .val (.int p4), .val (.int mm), .val (.int sel), .val (.int bs), .val (.int c0), .val (.int ln), .val (.int ct), .val (.double pp), .second, .val (.double qq), .second, .unset] [(.int (if (cmpValue (FP.dcmp pp FP.dconst0) .l) = (0 : Int32) then (1 : Int32) else (0 : Int32)))])) := by
      refine r30.trans ?_
      by_cases hf31 : (cmpValue (FP.dcmp pp FP.dconst0) .l) = (0 : Int32)
      · skip
        rw [show (if (cmpValue (FP.dcmp pp FP.dconst0) .l) = (0 : Int32) then (1 : Int32) else (0 : Int32)) = (1 : Int32) from if_pos hf31]
        have q0 : Steps p.tables e below (T27.setTop (mkF m 141 #[.val (.int p1), .val (.int p2), .val (.int p3), .val (.int p4), .val (.int mm), .val (.int sel), .val (.int bs), .val (.int c0), .val (.int ln), .val (.int ct), .val (.double pp), .second, .val (.double qq), .second, .unset] [(.int (cmpValue (FP.dcmp pp FP.dconst0) .l))])) (T27.setTop (mkF m 141 #[.val (.int p1), .val (.int p2), .val (.int p3), .val (.int p4), .val (.int mm), .val (.int sel), .val (.int bs), .val (.int c0), .val (.int ln), .val (.int ct), .val (.double pp), .second, .val (.double qq), .second, .unset] [(.int (cmpValue (FP.dcmp pp FP.dconst0) .l))])) := Steps.refl _
        have r32 : Steps p.tables e below (T27.setTop (mkF m 141 #[.val (.int p1), .val (.int p2), .val (.int p3), .val (.int p4), .val (.int mm), .val (.int sel), .val (.int bs), .val (.int c0), .val (.int ln), .val (.int ct), .val (.double pp), .second, .val (.double qq), .second, .unset] [(.int (cmpValue (FP.dcmp pp FP.dconst0) .l))])) (T27.setTop (mkF m 149 #[.val (.int p1), .val (.int p2), .val (.int p3), .val (.int p4), .val (.int mm), .val (.int sel), .val (.int bs), .val (.int c0), .val (.int ln), .val (.int ct), .val (.double pp), .second, .val (.double qq), .second, .unset] [(.int (1 : Int32))])) := by
          refine q0.trans ?_
          show Steps p.tables e below (T27.setTop (mkF m 141 #[.val (.int p1), .val (.int p2), .val (.int p3), .val (.int p4), .val (.int mm), .val (.int sel), .val (.int bs), .val (.int c0), .val (.int ln), .val (.int ct), .val (.double pp), .second, .val (.double qq), .second, .unset] [(.int (cmpValue (FP.dcmp pp FP.dconst0) .l))])) _
          refine XS.ifNo X27.here hx rfl (hb hby at_141) rfl ((if0 _ _).trans (teq hf31).2) ?_
          show Steps p.tables e below (T27.setTop (mkF m 144 #[.val (.int p1), .val (.int p2), .val (.int p3), .val (.int p4), .val (.int mm), .val (.int sel), .val (.int bs), .val (.int c0), .val (.int ln), .val (.int ct), .val (.double pp), .second, .val (.double qq), .second, .unset] [])) _
          refine XS.iconst X27.here hx rfl (hb hby at_144) ?_
          show Steps p.tables e below (T27.setTop (mkF m 145 #[.val (.int p1), .val (.int p2), .val (.int p3), .val (.int p4), .val (.int mm), .val (.int sel), .val (.int bs), .val (.int c0), .val (.int ln), .val (.int ct), .val (.double pp), .second, .val (.double qq), .second, .unset] [(.int (1 : Int32))])) _
          refine XS.goto X27.here hx rfl (pc0 := 145) (pc' := 149) rfl (hb hby at_145) (by decide) (by decide) ?_
          exact Steps.refl _
        exact r32
      · skip
        rw [show (if (cmpValue (FP.dcmp pp FP.dconst0) .l) = (0 : Int32) then (1 : Int32) else (0 : Int32)) = (0 : Int32) from if_neg hf31]
        have q0 : Steps p.tables e below (T27.setTop (mkF m 141 #[.val (.int p1), .val (.int p2), .val (.int p3), .val (.int p4), .val (.int mm), .val (.int sel), .val (.int bs), .val (.int c0), .val (.int ln), .val (.int ct), .val (.double pp), .second, .val (.double qq), .second, .unset] [(.int (cmpValue (FP.dcmp pp FP.dconst0) .l))])) (T27.setTop (mkF m 141 #[.val (.int p1), .val (.int p2), .val (.int p3), .val (.int p4), .val (.int mm), .val (.int sel), .val (.int bs), .val (.int c0), .val (.int ln), .val (.int ct), .val (.double pp), .second, .val (.double qq), .second, .unset] [(.int (cmpValue (FP.dcmp pp FP.dconst0) .l))])) := Steps.refl _
        have r33 : Steps p.tables e below (T27.setTop (mkF m 141 #[.val (.int p1), .val (.int p2), .val (.int p3), .val (.int p4), .val (.int mm), .val (.int sel), .val (.int bs), .val (.int c0), .val (.int ln), .val (.int ct), .val (.double pp), .second, .val (.double qq), .second, .unset] [(.int (cmpValue (FP.dcmp pp FP.dconst0) .l))])) (T27.setTop (mkF m 149 #[.val (.int p1), .val (.int p2), .val (.int p3), .val (.int p4), .val (.int mm), .val (.int sel), .val (.int bs), .val (.int c0), .val (.int ln), .val (.int ct), .val (.double pp), .second, .val (.double qq), .second, .unset] [(.int (0 : Int32))])) := by
          refine q0.trans ?_
          show Steps p.tables e below (T27.setTop (mkF m 141 #[.val (.int p1), .val (.int p2), .val (.int p3), .val (.int p4), .val (.int mm), .val (.int sel), .val (.int bs), .val (.int c0), .val (.int ln), .val (.int ct), .val (.double pp), .second, .val (.double qq), .second, .unset] [(.int (cmpValue (FP.dcmp pp FP.dconst0) .l))])) _
          refine XS.ifYes X27.here hx rfl (pc0 := 141) (pc' := 148) rfl (hb hby at_141) rfl ((if0 _ _).trans (feq hf31).2) (by decide) (by decide) ?_
          show Steps p.tables e below (T27.setTop (mkF m 148 #[.val (.int p1), .val (.int p2), .val (.int p3), .val (.int p4), .val (.int mm), .val (.int sel), .val (.int bs), .val (.int c0), .val (.int ln), .val (.int ct), .val (.double pp), .second, .val (.double qq), .second, .unset] [])) _
          refine XS.iconst X27.here hx rfl (hb hby at_148) ?_
          exact Steps.refl _
        exact r33
    have r35 : Steps p.tables e below S0 (T27.setTop (mkF m 151 #[.val (.int p1), .val (.int p2), .val (.int p3), .val (.int p4), .val (.int mm), .val (.int sel), .val (.int bs), .val (.int c0), .val (.int ln), .val (.int ct), .val (.double pp), .second, .val (.double qq), .second, .unset] [(.int ct), (.int (if (cmpValue (FP.dcmp pp FP.dconst0) .l) = (0 : Int32) then (1 : Int32) else (0 : Int32)))])) := by
      refine r34.trans ?_
      show Steps p.tables e below (T27.setTop (mkF m 149 #[.val (.int p1), .val (.int p2), .val (.int p3), .val (.int p4), .val (.int mm), .val (.int sel), .val (.int bs), .val (.int c0), .val (.int ln), .val (.int ct), .val (.double pp), .second, .val (.double qq), .second, .unset] [(.int (if (cmpValue (FP.dcmp pp FP.dconst0) .l) = (0 : Int32) then (1 : Int32) else (0 : Int32)))])) _
      refine XS.iload X27.here hx rfl (hb hby at_149) rfl ?_
      exact Steps.refl _
    have r39 : Steps p.tables e below S0 (T27.setTop (mkF m 159 #[.val (.int p1), .val (.int p2), .val (.int p3), .val (.int p4), .val (.int mm), .val (.int sel), .val (.int bs), .val (.int c0), .val (.int ln), .val (.int ct), .val (.double pp), .second, .val (.double qq), .second, .unset] [(.int (if ct = (0 : Int32) then (1 : Int32) else (0 : Int32))), (.int (if (cmpValue (FP.dcmp pp FP.dconst0) .l) = (0 : Int32) then (1 : Int32) else (0 : Int32)))])) := by
      refine r35.trans ?_
      by_cases hf36 : ct = (0 : Int32)
      · skip
        rw [show (if ct = (0 : Int32) then (1 : Int32) else (0 : Int32)) = (1 : Int32) from if_pos hf36]
        have q0 : Steps p.tables e below (T27.setTop (mkF m 151 #[.val (.int p1), .val (.int p2), .val (.int p3), .val (.int p4), .val (.int mm), .val (.int sel), .val (.int bs), .val (.int c0), .val (.int ln), .val (.int ct), .val (.double pp), .second, .val (.double qq), .second, .unset] [(.int ct), (.int (if (cmpValue (FP.dcmp pp FP.dconst0) .l) = (0 : Int32) then (1 : Int32) else (0 : Int32)))])) (T27.setTop (mkF m 151 #[.val (.int p1), .val (.int p2), .val (.int p3), .val (.int p4), .val (.int mm), .val (.int sel), .val (.int bs), .val (.int c0), .val (.int ln), .val (.int ct), .val (.double pp), .second, .val (.double qq), .second, .unset] [(.int ct), (.int (if (cmpValue (FP.dcmp pp FP.dconst0) .l) = (0 : Int32) then (1 : Int32) else (0 : Int32)))])) := Steps.refl _
        have r37 : Steps p.tables e below (T27.setTop (mkF m 151 #[.val (.int p1), .val (.int p2), .val (.int p3), .val (.int p4), .val (.int mm), .val (.int sel), .val (.int bs), .val (.int c0), .val (.int ln), .val (.int ct), .val (.double pp), .second, .val (.double qq), .second, .unset] [(.int ct), (.int (if (cmpValue (FP.dcmp pp FP.dconst0) .l) = (0 : Int32) then (1 : Int32) else (0 : Int32)))])) (T27.setTop (mkF m 159 #[.val (.int p1), .val (.int p2), .val (.int p3), .val (.int p4), .val (.int mm), .val (.int sel), .val (.int bs), .val (.int c0), .val (.int ln), .val (.int ct), .val (.double pp), .second, .val (.double qq), .second, .unset] [(.int (1 : Int32)), (.int (if (cmpValue (FP.dcmp pp FP.dconst0) .l) = (0 : Int32) then (1 : Int32) else (0 : Int32)))])) := by
          refine q0.trans ?_
          show Steps p.tables e below (T27.setTop (mkF m 151 #[.val (.int p1), .val (.int p2), .val (.int p3), .val (.int p4), .val (.int mm), .val (.int sel), .val (.int bs), .val (.int c0), .val (.int ln), .val (.int ct), .val (.double pp), .second, .val (.double qq), .second, .unset] [(.int ct), (.int (if (cmpValue (FP.dcmp pp FP.dconst0) .l) = (0 : Int32) then (1 : Int32) else (0 : Int32)))])) _
          refine XS.ifNo X27.here hx rfl (hb hby at_151) rfl ((if0 _ _).trans (teq hf36).2) ?_
          show Steps p.tables e below (T27.setTop (mkF m 154 #[.val (.int p1), .val (.int p2), .val (.int p3), .val (.int p4), .val (.int mm), .val (.int sel), .val (.int bs), .val (.int c0), .val (.int ln), .val (.int ct), .val (.double pp), .second, .val (.double qq), .second, .unset] [(.int (if (cmpValue (FP.dcmp pp FP.dconst0) .l) = (0 : Int32) then (1 : Int32) else (0 : Int32)))])) _
          refine XS.iconst X27.here hx rfl (hb hby at_154) ?_
          show Steps p.tables e below (T27.setTop (mkF m 155 #[.val (.int p1), .val (.int p2), .val (.int p3), .val (.int p4), .val (.int mm), .val (.int sel), .val (.int bs), .val (.int c0), .val (.int ln), .val (.int ct), .val (.double pp), .second, .val (.double qq), .second, .unset] [(.int (1 : Int32)), (.int (if (cmpValue (FP.dcmp pp FP.dconst0) .l) = (0 : Int32) then (1 : Int32) else (0 : Int32)))])) _
          refine XS.goto X27.here hx rfl (pc0 := 155) (pc' := 159) rfl (hb hby at_155) (by decide) (by decide) ?_
          exact Steps.refl _
        exact r37
      · skip
        rw [show (if ct = (0 : Int32) then (1 : Int32) else (0 : Int32)) = (0 : Int32) from if_neg hf36]
        have q0 : Steps p.tables e below (T27.setTop (mkF m 151 #[.val (.int p1), .val (.int p2), .val (.int p3), .val (.int p4), .val (.int mm), .val (.int sel), .val (.int bs), .val (.int c0), .val (.int ln), .val (.int ct), .val (.double pp), .second, .val (.double qq), .second, .unset] [(.int ct), (.int (if (cmpValue (FP.dcmp pp FP.dconst0) .l) = (0 : Int32) then (1 : Int32) else (0 : Int32)))])) (T27.setTop (mkF m 151 #[.val (.int p1), .val (.int p2), .val (.int p3), .val (.int p4), .val (.int mm), .val (.int sel), .val (.int bs), .val (.int c0), .val (.int ln), .val (.int ct), .val (.double pp), .second, .val (.double qq), .second, .unset] [(.int ct), (.int (if (cmpValue (FP.dcmp pp FP.dconst0) .l) = (0 : Int32) then (1 : Int32) else (0 : Int32)))])) := Steps.refl _
        have r38 : Steps p.tables e below (T27.setTop (mkF m 151 #[.val (.int p1), .val (.int p2), .val (.int p3), .val (.int p4), .val (.int mm), .val (.int sel), .val (.int bs), .val (.int c0), .val (.int ln), .val (.int ct), .val (.double pp), .second, .val (.double qq), .second, .unset] [(.int ct), (.int (if (cmpValue (FP.dcmp pp FP.dconst0) .l) = (0 : Int32) then (1 : Int32) else (0 : Int32)))])) (T27.setTop (mkF m 159 #[.val (.int p1), .val (.int p2), .val (.int p3), .val (.int p4), .val (.int mm), .val (.int sel), .val (.int bs), .val (.int c0), .val (.int ln), .val (.int ct), .val (.double pp), .second, .val (.double qq), .second, .unset] [(.int (0 : Int32)), (.int (if (cmpValue (FP.dcmp pp FP.dconst0) .l) = (0 : Int32) then (1 : Int32) else (0 : Int32)))])) := by
          refine q0.trans ?_
          show Steps p.tables e below (T27.setTop (mkF m 151 #[.val (.int p1), .val (.int p2), .val (.int p3), .val (.int p4), .val (.int mm), .val (.int sel), .val (.int bs), .val (.int c0), .val (.int ln), .val (.int ct), .val (.double pp), .second, .val (.double qq), .second, .unset] [(.int ct), (.int (if (cmpValue (FP.dcmp pp FP.dconst0) .l) = (0 : Int32) then (1 : Int32) else (0 : Int32)))])) _
          refine XS.ifYes X27.here hx rfl (pc0 := 151) (pc' := 158) rfl (hb hby at_151) rfl ((if0 _ _).trans (feq hf36).2) (by decide) (by decide) ?_
          show Steps p.tables e below (T27.setTop (mkF m 158 #[.val (.int p1), .val (.int p2), .val (.int p3), .val (.int p4), .val (.int mm), .val (.int sel), .val (.int bs), .val (.int c0), .val (.int ln), .val (.int ct), .val (.double pp), .second, .val (.double qq), .second, .unset] [(.int (if (cmpValue (FP.dcmp pp FP.dconst0) .l) = (0 : Int32) then (1 : Int32) else (0 : Int32)))])) _
          refine XS.iconst X27.here hx rfl (hb hby at_158) ?_
          exact Steps.refl _
        exact r38
    have r40 : Steps p.tables e below S0 (T27.setTop (mkF m 166 #[.val (.int p1), .val (.int p2), .val (.int p3), .val (.int p4), .val (.int mm), .val (.int sel), .val (.int bs), .val (.int c0), .val (.int ln), .val (.int ct), .val (.double pp), .second, .val (.double qq), .second, .unset] [(.int (cmpValue (FP.dcmp pp FP.dconst1) .l))])) := by
      refine r39.trans ?_
      show Steps p.tables e below (T27.setTop (mkF m 159 #[.val (.int p1), .val (.int p2), .val (.int p3), .val (.int p4), .val (.int mm), .val (.int sel), .val (.int bs), .val (.int c0), .val (.int ln), .val (.int ct), .val (.double pp), .second, .val (.double qq), .second, .unset] [(.int (if ct = (0 : Int32) then (1 : Int32) else (0 : Int32))), (.int (if (cmpValue (FP.dcmp pp FP.dconst0) .l) = (0 : Int32) then (1 : Int32) else (0 : Int32)))])) _
      refine XS.icmpNo X27.here hx rfl (hb hby at_159) rfl (teq (ifc3 f4 rfl rfl)).2 ?_
      show Steps p.tables e below (T27.setTop (mkF m 162 #[.val (.int p1), .val (.int p2), .val (.int p3), .val (.int p4), .val (.int mm), .val (.int sel), .val (.int bs), .val (.int c0), .val (.int ln), .val (.int ct), .val (.double pp), .second, .val (.double qq), .second, .unset] [])) _
      refine XS.dload X27.here hx rfl (hb hby at_162) rfl ?_
      show Steps p.tables e below (T27.setTop (mkF m 164 #[.val (.int p1), .val (.int p2), .val (.int p3), .val (.int p4), .val (.int mm), .val (.int sel), .val (.int bs), .val (.int c0), .val (.int ln), .val (.int ct), .val (.double pp), .second, .val (.double qq), .second, .unset] [(.double pp)])) _
      refine XS.dconst1 X27.here hx rfl (hb hby at_164) rfl ?_
      show Steps p.tables e below (T27.setTop (mkF m 165 #[.val (.int p1), .val (.int p2), .val (.int p3), .val (.int p4), .val (.int mm), .val (.int sel), .val (.int bs), .val (.int c0), .val (.int ln), .val (.int ct), .val (.double pp), .second, .val (.double qq), .second, .unset] [(.double FP.dconst1), (.double pp)])) _
      refine XS.dcmpS X27.here hx rfl (hb hby at_165) rfl rfl ?_
      exact Steps.refl _
    have r44 : Steps p.tables e below S0 (T27.setTop (mkF m 174 #[.val (.int p1), .val (.int p2), .val (.int p3), .val (.int p4), .val (.int mm), .val (.int sel), .val (.int bs), .val (.int c0), .val (.int ln), .val (.int ct), .val (.double pp), .second, .val (.double qq), .second, .unset] [(.int (if (cmpValue (FP.dcmp pp FP.dconst1) .l) = (0 : Int32) then (1 : Int32) else (0 : Int32)))])) := by
      refine r40.trans ?_
      by_cases hf41 : (cmpValue (FP.dcmp pp FP.dconst1) .l) = (0 : Int32)
      · skip
        rw [show (if (cmpValue (FP.dcmp pp FP.dconst1) .l) = (0 : Int32) then (1 : Int32) else (0 : Int32)) = (1 : Int32) from if_pos hf41]
        have q0 : Steps p.tables e below (T27.setTop (mkF m 166 #[.val (.int p1), .val (.int p2), .val (.int p3), .val (.int p4), .val (.int mm), .val (.int sel), .val (.int bs), .val (.int c0), .val (.int ln), .val (.int ct), .val (.double pp), .second, .val (.double qq), .second, .unset] [(.int (cmpValue (FP.dcmp pp FP.dconst1) .l))])) (T27.setTop (mkF m 166 #[.val (.int p1), .val (.int p2), .val (.int p3), .val (.int p4), .val (.int mm), .val (.int sel), .val (.int bs), .val (.int c0), .val (.int ln), .val (.int ct), .val (.double pp), .second, .val (.double qq), .second, .unset] [(.int (cmpValue (FP.dcmp pp FP.dconst1) .l))])) := Steps.refl _
        have r42 : Steps p.tables e below (T27.setTop (mkF m 166 #[.val (.int p1), .val (.int p2), .val (.int p3), .val (.int p4), .val (.int mm), .val (.int sel), .val (.int bs), .val (.int c0), .val (.int ln), .val (.int ct), .val (.double pp), .second, .val (.double qq), .second, .unset] [(.int (cmpValue (FP.dcmp pp FP.dconst1) .l))])) (T27.setTop (mkF m 174 #[.val (.int p1), .val (.int p2), .val (.int p3), .val (.int p4), .val (.int mm), .val (.int sel), .val (.int bs), .val (.int c0), .val (.int ln), .val (.int ct), .val (.double pp), .second, .val (.double qq), .second, .unset] [(.int (1 : Int32))])) := by
          refine q0.trans ?_
          show Steps p.tables e below (T27.setTop (mkF m 166 #[.val (.int p1), .val (.int p2), .val (.int p3), .val (.int p4), .val (.int mm), .val (.int sel), .val (.int bs), .val (.int c0), .val (.int ln), .val (.int ct), .val (.double pp), .second, .val (.double qq), .second, .unset] [(.int (cmpValue (FP.dcmp pp FP.dconst1) .l))])) _
          refine XS.ifNo X27.here hx rfl (hb hby at_166) rfl ((if0 _ _).trans (teq hf41).2) ?_
          show Steps p.tables e below (T27.setTop (mkF m 169 #[.val (.int p1), .val (.int p2), .val (.int p3), .val (.int p4), .val (.int mm), .val (.int sel), .val (.int bs), .val (.int c0), .val (.int ln), .val (.int ct), .val (.double pp), .second, .val (.double qq), .second, .unset] [])) _
          refine XS.iconst X27.here hx rfl (hb hby at_169) ?_
          show Steps p.tables e below (T27.setTop (mkF m 170 #[.val (.int p1), .val (.int p2), .val (.int p3), .val (.int p4), .val (.int mm), .val (.int sel), .val (.int bs), .val (.int c0), .val (.int ln), .val (.int ct), .val (.double pp), .second, .val (.double qq), .second, .unset] [(.int (1 : Int32))])) _
          refine XS.goto X27.here hx rfl (pc0 := 170) (pc' := 174) rfl (hb hby at_170) (by decide) (by decide) ?_
          exact Steps.refl _
        exact r42
      · skip
        rw [show (if (cmpValue (FP.dcmp pp FP.dconst1) .l) = (0 : Int32) then (1 : Int32) else (0 : Int32)) = (0 : Int32) from if_neg hf41]
        have q0 : Steps p.tables e below (T27.setTop (mkF m 166 #[.val (.int p1), .val (.int p2), .val (.int p3), .val (.int p4), .val (.int mm), .val (.int sel), .val (.int bs), .val (.int c0), .val (.int ln), .val (.int ct), .val (.double pp), .second, .val (.double qq), .second, .unset] [(.int (cmpValue (FP.dcmp pp FP.dconst1) .l))])) (T27.setTop (mkF m 166 #[.val (.int p1), .val (.int p2), .val (.int p3), .val (.int p4), .val (.int mm), .val (.int sel), .val (.int bs), .val (.int c0), .val (.int ln), .val (.int ct), .val (.double pp), .second, .val (.double qq), .second, .unset] [(.int (cmpValue (FP.dcmp pp FP.dconst1) .l))])) := Steps.refl _
        have r43 : Steps p.tables e below (T27.setTop (mkF m 166 #[.val (.int p1), .val (.int p2), .val (.int p3), .val (.int p4), .val (.int mm), .val (.int sel), .val (.int bs), .val (.int c0), .val (.int ln), .val (.int ct), .val (.double pp), .second, .val (.double qq), .second, .unset] [(.int (cmpValue (FP.dcmp pp FP.dconst1) .l))])) (T27.setTop (mkF m 174 #[.val (.int p1), .val (.int p2), .val (.int p3), .val (.int p4), .val (.int mm), .val (.int sel), .val (.int bs), .val (.int c0), .val (.int ln), .val (.int ct), .val (.double pp), .second, .val (.double qq), .second, .unset] [(.int (0 : Int32))])) := by
          refine q0.trans ?_
          show Steps p.tables e below (T27.setTop (mkF m 166 #[.val (.int p1), .val (.int p2), .val (.int p3), .val (.int p4), .val (.int mm), .val (.int sel), .val (.int bs), .val (.int c0), .val (.int ln), .val (.int ct), .val (.double pp), .second, .val (.double qq), .second, .unset] [(.int (cmpValue (FP.dcmp pp FP.dconst1) .l))])) _
          refine XS.ifYes X27.here hx rfl (pc0 := 166) (pc' := 173) rfl (hb hby at_166) rfl ((if0 _ _).trans (feq hf41).2) (by decide) (by decide) ?_
          show Steps p.tables e below (T27.setTop (mkF m 173 #[.val (.int p1), .val (.int p2), .val (.int p3), .val (.int p4), .val (.int mm), .val (.int sel), .val (.int bs), .val (.int c0), .val (.int ln), .val (.int ct), .val (.double pp), .second, .val (.double qq), .second, .unset] [])) _
          refine XS.iconst X27.here hx rfl (hb hby at_173) ?_
          exact Steps.refl _
        exact r43
    have r45 : Steps p.tables e below S0 (T27.setTop (mkF m 178 #[.val (.int p1), .val (.int p2), .val (.int p3), .val (.int p4), .val (.int mm), .val (.int sel), .val (.int bs), .val (.int c0), .val (.int ln), .val (.int ct), .val (.double pp), .second, .val (.double qq), .second, .unset] [(.int ln), (.int ct), (.int (if (cmpValue (FP.dcmp pp FP.dconst1) .l) = (0 : Int32) then (1 : Int32) else (0 : Int32)))])) := by
      refine r44.trans ?_
      show Steps p.tables e below (T27.setTop (mkF m 174 #[.val (.int p1), .val (.int p2), .val (.int p3), .val (.int p4), .val (.int mm), .val (.int sel), .val (.int bs), .val (.int c0), .val (.int ln), .val (.int ct), .val (.double pp), .second, .val (.double qq), .second, .unset] [(.int (if (cmpValue (FP.dcmp pp FP.dconst1) .l) = (0 : Int32) then (1 : Int32) else (0 : Int32)))])) _
      refine XS.iload X27.here hx rfl (hb hby at_174) rfl ?_
      show Steps p.tables e below (T27.setTop (mkF m 176 #[.val (.int p1), .val (.int p2), .val (.int p3), .val (.int p4), .val (.int mm), .val (.int sel), .val (.int bs), .val (.int c0), .val (.int ln), .val (.int ct), .val (.double pp), .second, .val (.double qq), .second, .unset] [(.int ct), (.int (if (cmpValue (FP.dcmp pp FP.dconst1) .l) = (0 : Int32) then (1 : Int32) else (0 : Int32)))])) _
      refine XS.iload X27.here hx rfl (hb hby at_176) rfl ?_
      exact Steps.refl _
    have r49 : Steps p.tables e below S0 (T27.setTop (mkF m 186 #[.val (.int p1), .val (.int p2), .val (.int p3), .val (.int p4), .val (.int mm), .val (.int sel), .val (.int bs), .val (.int c0), .val (.int ln), .val (.int ct), .val (.double pp), .second, .val (.double qq), .second, .unset] [(.int (if ct = ln then (1 : Int32) else (0 : Int32))), (.int (if (cmpValue (FP.dcmp pp FP.dconst1) .l) = (0 : Int32) then (1 : Int32) else (0 : Int32)))])) := by
      refine r45.trans ?_
      by_cases hf46 : ct = ln
      · skip
        rw [show (if ct = ln then (1 : Int32) else (0 : Int32)) = (1 : Int32) from if_pos hf46]
        have q0 : Steps p.tables e below (T27.setTop (mkF m 178 #[.val (.int p1), .val (.int p2), .val (.int p3), .val (.int p4), .val (.int mm), .val (.int sel), .val (.int bs), .val (.int c0), .val (.int ln), .val (.int ct), .val (.double pp), .second, .val (.double qq), .second, .unset] [(.int ln), (.int ct), (.int (if (cmpValue (FP.dcmp pp FP.dconst1) .l) = (0 : Int32) then (1 : Int32) else (0 : Int32)))])) (T27.setTop (mkF m 178 #[.val (.int p1), .val (.int p2), .val (.int p3), .val (.int p4), .val (.int mm), .val (.int sel), .val (.int bs), .val (.int c0), .val (.int ln), .val (.int ct), .val (.double pp), .second, .val (.double qq), .second, .unset] [(.int ln), (.int ct), (.int (if (cmpValue (FP.dcmp pp FP.dconst1) .l) = (0 : Int32) then (1 : Int32) else (0 : Int32)))])) := Steps.refl _
        have r47 : Steps p.tables e below (T27.setTop (mkF m 178 #[.val (.int p1), .val (.int p2), .val (.int p3), .val (.int p4), .val (.int mm), .val (.int sel), .val (.int bs), .val (.int c0), .val (.int ln), .val (.int ct), .val (.double pp), .second, .val (.double qq), .second, .unset] [(.int ln), (.int ct), (.int (if (cmpValue (FP.dcmp pp FP.dconst1) .l) = (0 : Int32) then (1 : Int32) else (0 : Int32)))])) (T27.setTop (mkF m 186 #[.val (.int p1), .val (.int p2), .val (.int p3), .val (.int p4), .val (.int mm), .val (.int sel), .val (.int bs), .val (.int c0), .val (.int ln), .val (.int ct), .val (.double pp), .second, .val (.double qq), .second, .unset] [(.int (1 : Int32)), (.int (if (cmpValue (FP.dcmp pp FP.dconst1) .l) = (0 : Int32) then (1 : Int32) else (0 : Int32)))])) := by
          refine q0.trans ?_
          show Steps p.tables e below (T27.setTop (mkF m 178 #[.val (.int p1), .val (.int p2), .val (.int p3), .val (.int p4), .val (.int mm), .val (.int sel), .val (.int bs), .val (.int c0), .val (.int ln), .val (.int ct), .val (.double pp), .second, .val (.double qq), .second, .unset] [(.int ln), (.int ct), (.int (if (cmpValue (FP.dcmp pp FP.dconst1) .l) = (0 : Int32) then (1 : Int32) else (0 : Int32)))])) _
          refine XS.icmpNo X27.here hx rfl (hb hby at_178) rfl (teq hf46).2 ?_
          show Steps p.tables e below (T27.setTop (mkF m 181 #[.val (.int p1), .val (.int p2), .val (.int p3), .val (.int p4), .val (.int mm), .val (.int sel), .val (.int bs), .val (.int c0), .val (.int ln), .val (.int ct), .val (.double pp), .second, .val (.double qq), .second, .unset] [(.int (if (cmpValue (FP.dcmp pp FP.dconst1) .l) = (0 : Int32) then (1 : Int32) else (0 : Int32)))])) _
          refine XS.iconst X27.here hx rfl (hb hby at_181) ?_
          show Steps p.tables e below (T27.setTop (mkF m 182 #[.val (.int p1), .val (.int p2), .val (.int p3), .val (.int p4), .val (.int mm), .val (.int sel), .val (.int bs), .val (.int c0), .val (.int ln), .val (.int ct), .val (.double pp), .second, .val (.double qq), .second, .unset] [(.int (1 : Int32)), (.int (if (cmpValue (FP.dcmp pp FP.dconst1) .l) = (0 : Int32) then (1 : Int32) else (0 : Int32)))])) _
          refine XS.goto X27.here hx rfl (pc0 := 182) (pc' := 186) rfl (hb hby at_182) (by decide) (by decide) ?_
          exact Steps.refl _
        exact r47
      · skip
        rw [show (if ct = ln then (1 : Int32) else (0 : Int32)) = (0 : Int32) from if_neg hf46]
        have q0 : Steps p.tables e below (T27.setTop (mkF m 178 #[.val (.int p1), .val (.int p2), .val (.int p3), .val (.int p4), .val (.int mm), .val (.int sel), .val (.int bs), .val (.int c0), .val (.int ln), .val (.int ct), .val (.double pp), .second, .val (.double qq), .second, .unset] [(.int ln), (.int ct), (.int (if (cmpValue (FP.dcmp pp FP.dconst1) .l) = (0 : Int32) then (1 : Int32) else (0 : Int32)))])) (T27.setTop (mkF m 178 #[.val (.int p1), .val (.int p2), .val (.int p3), .val (.int p4), .val (.int mm), .val (.int sel), .val (.int bs), .val (.int c0), .val (.int ln), .val (.int ct), .val (.double pp), .second, .val (.double qq), .second, .unset] [(.int ln), (.int ct), (.int (if (cmpValue (FP.dcmp pp FP.dconst1) .l) = (0 : Int32) then (1 : Int32) else (0 : Int32)))])) := Steps.refl _
        have r48 : Steps p.tables e below (T27.setTop (mkF m 178 #[.val (.int p1), .val (.int p2), .val (.int p3), .val (.int p4), .val (.int mm), .val (.int sel), .val (.int bs), .val (.int c0), .val (.int ln), .val (.int ct), .val (.double pp), .second, .val (.double qq), .second, .unset] [(.int ln), (.int ct), (.int (if (cmpValue (FP.dcmp pp FP.dconst1) .l) = (0 : Int32) then (1 : Int32) else (0 : Int32)))])) (T27.setTop (mkF m 186 #[.val (.int p1), .val (.int p2), .val (.int p3), .val (.int p4), .val (.int mm), .val (.int sel), .val (.int bs), .val (.int c0), .val (.int ln), .val (.int ct), .val (.double pp), .second, .val (.double qq), .second, .unset] [(.int (0 : Int32)), (.int (if (cmpValue (FP.dcmp pp FP.dconst1) .l) = (0 : Int32) then (1 : Int32) else (0 : Int32)))])) := by
          refine q0.trans ?_
          show Steps p.tables e below (T27.setTop (mkF m 178 #[.val (.int p1), .val (.int p2), .val (.int p3), .val (.int p4), .val (.int mm), .val (.int sel), .val (.int bs), .val (.int c0), .val (.int ln), .val (.int ct), .val (.double pp), .second, .val (.double qq), .second, .unset] [(.int ln), (.int ct), (.int (if (cmpValue (FP.dcmp pp FP.dconst1) .l) = (0 : Int32) then (1 : Int32) else (0 : Int32)))])) _
          refine XS.icmpYes X27.here hx rfl (pc0 := 178) (pc' := 185) rfl (hb hby at_178) rfl (feq hf46).2 (by decide) (by decide) ?_
          show Steps p.tables e below (T27.setTop (mkF m 185 #[.val (.int p1), .val (.int p2), .val (.int p3), .val (.int p4), .val (.int mm), .val (.int sel), .val (.int bs), .val (.int c0), .val (.int ln), .val (.int ct), .val (.double pp), .second, .val (.double qq), .second, .unset] [(.int (if (cmpValue (FP.dcmp pp FP.dconst1) .l) = (0 : Int32) then (1 : Int32) else (0 : Int32)))])) _
          refine XS.iconst X27.here hx rfl (hb hby at_185) ?_
          exact Steps.refl _
        exact r48
    have r50 : Steps p.tables e below S0 (T27.setTop (mkF m 207 #[.val (.int p1), .val (.int p2), .val (.int p3), .val (.int p4), .val (.int mm), .val (.int sel), .val (.int bs), .val (.int c0), .val (.int ln), .val (.int ct), .val (.double pp), .second, .val (.double qq), .second, .val (.int (1 : Int32))] [(.int (1 : Int32)), (.int sel)])) := by
      refine r49.trans ?_
      show Steps p.tables e below (T27.setTop (mkF m 186 #[.val (.int p1), .val (.int p2), .val (.int p3), .val (.int p4), .val (.int mm), .val (.int sel), .val (.int bs), .val (.int c0), .val (.int ln), .val (.int ct), .val (.double pp), .second, .val (.double qq), .second, .unset] [(.int (if ct = ln then (1 : Int32) else (0 : Int32))), (.int (if (cmpValue (FP.dcmp pp FP.dconst1) .l) = (0 : Int32) then (1 : Int32) else (0 : Int32)))])) _
      refine XS.icmpNo X27.here hx rfl (hb hby at_186) rfl (teq (ifc3 f5 rfl rfl)).2 ?_
      show Steps p.tables e below (T27.setTop (mkF m 189 #[.val (.int p1), .val (.int p2), .val (.int p3), .val (.int p4), .val (.int mm), .val (.int sel), .val (.int bs), .val (.int c0), .val (.int ln), .val (.int ct), .val (.double pp), .second, .val (.double qq), .second, .unset] [])) _
      refine XS.dload X27.here hx rfl (hb hby at_189) rfl ?_
      show Steps p.tables e below (T27.setTop (mkF m 191 #[.val (.int p1), .val (.int p2), .val (.int p3), .val (.int p4), .val (.int mm), .val (.int sel), .val (.int bs), .val (.int c0), .val (.int ln), .val (.int ct), .val (.double pp), .second, .val (.double qq), .second, .unset] [(.double pp)])) _
      refine XS.dload X27.here hx rfl (hb hby at_191) rfl ?_
      show Steps p.tables e below (T27.setTop (mkF m 193 #[.val (.int p1), .val (.int p2), .val (.int p3), .val (.int p4), .val (.int mm), .val (.int sel), .val (.int bs), .val (.int c0), .val (.int ln), .val (.int ct), .val (.double pp), .second, .val (.double qq), .second, .unset] [(.double qq), (.double pp)])) _
      refine XS.dcmpS X27.here hx rfl (hb hby at_193) rfl rfl ?_
      show Steps p.tables e below (T27.setTop (mkF m 194 #[.val (.int p1), .val (.int p2), .val (.int p3), .val (.int p4), .val (.int mm), .val (.int sel), .val (.int bs), .val (.int c0), .val (.int ln), .val (.int ct), .val (.double pp), .second, .val (.double qq), .second, .unset] [(.int (cmpValue (FP.dcmp pp qq) .l))])) _
      refine XS.ifNo X27.here hx rfl (hb hby at_194) rfl ((if0 _ _).trans (teq f6).2) ?_
      show Steps p.tables e below (T27.setTop (mkF m 197 #[.val (.int p1), .val (.int p2), .val (.int p3), .val (.int p4), .val (.int mm), .val (.int sel), .val (.int bs), .val (.int c0), .val (.int ln), .val (.int ct), .val (.double pp), .second, .val (.double qq), .second, .unset] [])) _
      refine XS.iconst X27.here hx rfl (hb hby at_197) ?_
      show Steps p.tables e below (T27.setTop (mkF m 198 #[.val (.int p1), .val (.int p2), .val (.int p3), .val (.int p4), .val (.int mm), .val (.int sel), .val (.int bs), .val (.int c0), .val (.int ln), .val (.int ct), .val (.double pp), .second, .val (.double qq), .second, .unset] [(.int (1 : Int32))])) _
      refine XS.goto X27.here hx rfl (pc0 := 198) (pc' := 202) rfl (hb hby at_198) (by decide) (by decide) ?_
      show Steps p.tables e below (T27.setTop (mkF m 202 #[.val (.int p1), .val (.int p2), .val (.int p3), .val (.int p4), .val (.int mm), .val (.int sel), .val (.int bs), .val (.int c0), .val (.int ln), .val (.int ct), .val (.double pp), .second, .val (.double qq), .second, .unset] [(.int (1 : Int32))])) _
      refine XS.istore X27.here hx rfl (hb hby at_202) rfl (l' := #[.val (.int p1), .val (.int p2), .val (.int p3), .val (.int p4), .val (.int mm), .val (.int sel), .val (.int bs), .val (.int c0), .val (.int ln), .val (.int ct), .val (.double pp), .second, .val (.double qq), .second, .val (.int (1 : Int32))]) rfl ?_
      show Steps p.tables e below (T27.setTop (mkF m 204 #[.val (.int p1), .val (.int p2), .val (.int p3), .val (.int p4), .val (.int mm), .val (.int sel), .val (.int bs), .val (.int c0), .val (.int ln), .val (.int ct), .val (.double pp), .second, .val (.double qq), .second, .val (.int (1 : Int32))] [])) _
      refine XS.iload X27.here hx rfl (hb hby at_204) rfl ?_
      show Steps p.tables e below (T27.setTop (mkF m 206 #[.val (.int p1), .val (.int p2), .val (.int p3), .val (.int p4), .val (.int mm), .val (.int sel), .val (.int bs), .val (.int c0), .val (.int ln), .val (.int ct), .val (.double pp), .second, .val (.double qq), .second, .val (.int (1 : Int32))] [(.int sel)])) _
      refine XS.iconst X27.here hx rfl (hb hby at_206) ?_
      exact Steps.refl _
    have r54 : Steps p.tables e below S0 (T27.setTop (mkF m 235 #[.val (.int p1), .val (.int p2), .val (.int p3), .val (.int p4), .val (.int mm), .val (.int sel), .val (.int bs), .val (.int c0), .val (.int ln), .val (.int ct), .val (.double pp), .second, .val (.double qq), .second, .val (.int (1 : Int32))] [])) := by
      refine r50.trans ?_
      by_cases hf51 : sel = (1 : Int32)
      · skip
        have q0 : Steps p.tables e below (T27.setTop (mkF m 207 #[.val (.int p1), .val (.int p2), .val (.int p3), .val (.int p4), .val (.int mm), .val (.int sel), .val (.int bs), .val (.int c0), .val (.int ln), .val (.int ct), .val (.double pp), .second, .val (.double qq), .second, .val (.int (1 : Int32))] [(.int (1 : Int32)), (.int sel)])) (T27.setTop (mkF m 207 #[.val (.int p1), .val (.int p2), .val (.int p3), .val (.int p4), .val (.int mm), .val (.int sel), .val (.int bs), .val (.int c0), .val (.int ln), .val (.int ct), .val (.double pp), .second, .val (.double qq), .second, .val (.int (1 : Int32))] [(.int (1 : Int32)), (.int sel)])) := Steps.refl _
        obtain ⟨e2, he, hbe2⟩ := hbe hf51
        have yq := own_q2 hbe2 hqq he
        have hc3 : c0.toInt.natAbs ≤ 2 ^ 53 := by have := rng32 c0; omega
        obtain ⟨dm, hdm⟩ : ∃ z, FP.dmul qq (FP.i2d bs) = z := ⟨_, rfl⟩
        have ydm : Dy c0.toInt 0 dm := hdm ▸ (yq.mulTo (Dy.i2d bs) (t := e2) (by rw [hbe2]) (by omega) hc3 (by omega))
        have r52 : Steps p.tables e below (T27.setTop (mkF m 207 #[.val (.int p1), .val (.int p2), .val (.int p3), .val (.int p4), .val (.int mm), .val (.int sel), .val (.int bs), .val (.int c0), .val (.int ln), .val (.int ct), .val (.double pp), .second, .val (.double qq), .second, .val (.int (1 : Int32))] [(.int (1 : Int32)), (.int sel)])) (T27.setTop (mkF m 235 #[.val (.int p1), .val (.int p2), .val (.int p3), .val (.int p4), .val (.int mm), .val (.int sel), .val (.int bs), .val (.int c0), .val (.int ln), .val (.int ct), .val (.double pp), .second, .val (.double qq), .second, .val (.int (1 : Int32))] [])) := by
          refine q0.trans ?_
          show Steps p.tables e below (T27.setTop (mkF m 207 #[.val (.int p1), .val (.int p2), .val (.int p3), .val (.int p4), .val (.int mm), .val (.int sel), .val (.int bs), .val (.int c0), .val (.int ln), .val (.int ct), .val (.double pp), .second, .val (.double qq), .second, .val (.int (1 : Int32))] [(.int (1 : Int32)), (.int sel)])) _
          refine XS.icmpNo X27.here hx rfl (hb hby at_207) rfl (teq hf51).2 ?_
          show Steps p.tables e below (T27.setTop (mkF m 210 #[.val (.int p1), .val (.int p2), .val (.int p3), .val (.int p4), .val (.int mm), .val (.int sel), .val (.int bs), .val (.int c0), .val (.int ln), .val (.int ct), .val (.double pp), .second, .val (.double qq), .second, .val (.int (1 : Int32))] [])) _
          refine XS.iload X27.here hx rfl (hb hby at_210) rfl ?_
          show Steps p.tables e below (T27.setTop (mkF m 212 #[.val (.int p1), .val (.int p2), .val (.int p3), .val (.int p4), .val (.int mm), .val (.int sel), .val (.int bs), .val (.int c0), .val (.int ln), .val (.int ct), .val (.double pp), .second, .val (.double qq), .second, .val (.int (1 : Int32))] [(.int (1 : Int32))])) _
          refine XS.ifNo X27.here hx rfl (hb hby at_212) rfl ((if0 _ _).trans (feq (by decide)).1) ?_
          show Steps p.tables e below (T27.setTop (mkF m 215 #[.val (.int p1), .val (.int p2), .val (.int p3), .val (.int p4), .val (.int mm), .val (.int sel), .val (.int bs), .val (.int c0), .val (.int ln), .val (.int ct), .val (.double pp), .second, .val (.double qq), .second, .val (.int (1 : Int32))] [])) _
          refine XS.dload X27.here hx rfl (hb hby at_215) rfl ?_
          show Steps p.tables e below (T27.setTop (mkF m 217 #[.val (.int p1), .val (.int p2), .val (.int p3), .val (.int p4), .val (.int mm), .val (.int sel), .val (.int bs), .val (.int c0), .val (.int ln), .val (.int ct), .val (.double pp), .second, .val (.double qq), .second, .val (.int (1 : Int32))] [(.double qq)])) _
          refine XS.iload X27.here hx rfl (hb hby at_217) rfl ?_
          show Steps p.tables e below (T27.setTop (mkF m 219 #[.val (.int p1), .val (.int p2), .val (.int p3), .val (.int p4), .val (.int mm), .val (.int sel), .val (.int bs), .val (.int c0), .val (.int ln), .val (.int ct), .val (.double pp), .second, .val (.double qq), .second, .val (.int (1 : Int32))] [(.int bs), (.double qq)])) _
          refine XS.i2dS X27.here hx rfl (hb hby at_219) rfl rfl ?_
          show Steps p.tables e below (T27.setTop (mkF m 220 #[.val (.int p1), .val (.int p2), .val (.int p3), .val (.int p4), .val (.int mm), .val (.int sel), .val (.int bs), .val (.int c0), .val (.int ln), .val (.int ct), .val (.double pp), .second, .val (.double qq), .second, .val (.int (1 : Int32))] [(.double (FP.i2d bs)), (.double qq)])) _
          refine XS.dmulS X27.here hx rfl (hb hby at_220) rfl (by rw [hdm]; exact ydm.noNaN) hdm ?_
          show Steps p.tables e below (T27.setTop (mkF m 221 #[.val (.int p1), .val (.int p2), .val (.int p3), .val (.int p4), .val (.int mm), .val (.int sel), .val (.int bs), .val (.int c0), .val (.int ln), .val (.int ct), .val (.double pp), .second, .val (.double qq), .second, .val (.int (1 : Int32))] [(.double dm)])) _
          refine XS.iload X27.here hx rfl (hb hby at_221) rfl ?_
          show Steps p.tables e below (T27.setTop (mkF m 223 #[.val (.int p1), .val (.int p2), .val (.int p3), .val (.int p4), .val (.int mm), .val (.int sel), .val (.int bs), .val (.int c0), .val (.int ln), .val (.int ct), .val (.double pp), .second, .val (.double qq), .second, .val (.int (1 : Int32))] [(.int c0), (.double dm)])) _
          refine XS.i2dS X27.here hx rfl (hb hby at_223) rfl rfl ?_
          show Steps p.tables e below (T27.setTop (mkF m 224 #[.val (.int p1), .val (.int p2), .val (.int p3), .val (.int p4), .val (.int mm), .val (.int sel), .val (.int bs), .val (.int c0), .val (.int ln), .val (.int ct), .val (.double pp), .second, .val (.double qq), .second, .val (.int (1 : Int32))] [(.double (FP.i2d c0)), (.double dm)])) _
          refine XS.dcmpS X27.here hx rfl (hb hby at_224) rfl (show cmpValue (FP.dcmp dm (FP.i2d c0)) .l = (0 : Int32) from (by rw [ydm.cmpV (Dy.i2d c0)]; simp)) ?_
          show Steps p.tables e below (T27.setTop (mkF m 225 #[.val (.int p1), .val (.int p2), .val (.int p3), .val (.int p4), .val (.int mm), .val (.int sel), .val (.int bs), .val (.int c0), .val (.int ln), .val (.int ct), .val (.double pp), .second, .val (.double qq), .second, .val (.int (1 : Int32))] [(.int (0 : Int32))])) _
          refine XS.ifNo X27.here hx rfl (hb hby at_225) rfl ((if0 _ _).trans (teq rfl).2) ?_
          show Steps p.tables e below (T27.setTop (mkF m 228 #[.val (.int p1), .val (.int p2), .val (.int p3), .val (.int p4), .val (.int mm), .val (.int sel), .val (.int bs), .val (.int c0), .val (.int ln), .val (.int ct), .val (.double pp), .second, .val (.double qq), .second, .val (.int (1 : Int32))] [])) _
          refine XS.iconst X27.here hx rfl (hb hby at_228) ?_
          show Steps p.tables e below (T27.setTop (mkF m 229 #[.val (.int p1), .val (.int p2), .val (.int p3), .val (.int p4), .val (.int mm), .val (.int sel), .val (.int bs), .val (.int c0), .val (.int ln), .val (.int ct), .val (.double pp), .second, .val (.double qq), .second, .val (.int (1 : Int32))] [(.int (1 : Int32))])) _
          refine XS.goto X27.here hx rfl (pc0 := 229) (pc' := 233) rfl (hb hby at_229) (by decide) (by decide) ?_
          show Steps p.tables e below (T27.setTop (mkF m 233 #[.val (.int p1), .val (.int p2), .val (.int p3), .val (.int p4), .val (.int mm), .val (.int sel), .val (.int bs), .val (.int c0), .val (.int ln), .val (.int ct), .val (.double pp), .second, .val (.double qq), .second, .val (.int (1 : Int32))] [(.int (1 : Int32))])) _
          refine XS.istore X27.here hx rfl (hb hby at_233) rfl (l' := #[.val (.int p1), .val (.int p2), .val (.int p3), .val (.int p4), .val (.int mm), .val (.int sel), .val (.int bs), .val (.int c0), .val (.int ln), .val (.int ct), .val (.double pp), .second, .val (.double qq), .second, .val (.int (1 : Int32))]) rfl ?_
          exact Steps.refl _
        exact r52
      · skip
        have q0 : Steps p.tables e below (T27.setTop (mkF m 207 #[.val (.int p1), .val (.int p2), .val (.int p3), .val (.int p4), .val (.int mm), .val (.int sel), .val (.int bs), .val (.int c0), .val (.int ln), .val (.int ct), .val (.double pp), .second, .val (.double qq), .second, .val (.int (1 : Int32))] [(.int (1 : Int32)), (.int sel)])) (T27.setTop (mkF m 207 #[.val (.int p1), .val (.int p2), .val (.int p3), .val (.int p4), .val (.int mm), .val (.int sel), .val (.int bs), .val (.int c0), .val (.int ln), .val (.int ct), .val (.double pp), .second, .val (.double qq), .second, .val (.int (1 : Int32))] [(.int (1 : Int32)), (.int sel)])) := Steps.refl _
        have r53 : Steps p.tables e below (T27.setTop (mkF m 207 #[.val (.int p1), .val (.int p2), .val (.int p3), .val (.int p4), .val (.int mm), .val (.int sel), .val (.int bs), .val (.int c0), .val (.int ln), .val (.int ct), .val (.double pp), .second, .val (.double qq), .second, .val (.int (1 : Int32))] [(.int (1 : Int32)), (.int sel)])) (T27.setTop (mkF m 235 #[.val (.int p1), .val (.int p2), .val (.int p3), .val (.int p4), .val (.int mm), .val (.int sel), .val (.int bs), .val (.int c0), .val (.int ln), .val (.int ct), .val (.double pp), .second, .val (.double qq), .second, .val (.int (1 : Int32))] [])) := by
          refine q0.trans ?_
          show Steps p.tables e below (T27.setTop (mkF m 207 #[.val (.int p1), .val (.int p2), .val (.int p3), .val (.int p4), .val (.int mm), .val (.int sel), .val (.int bs), .val (.int c0), .val (.int ln), .val (.int ct), .val (.double pp), .second, .val (.double qq), .second, .val (.int (1 : Int32))] [(.int (1 : Int32)), (.int sel)])) _
          refine XS.icmpYes X27.here hx rfl (pc0 := 207) (pc' := 235) rfl (hb hby at_207) rfl (feq hf51).2 (by decide) (by decide) ?_
          exact Steps.refl _
        exact r53
    by_cases hlt : ct < ln
    · skip
      have r55 : Steps p.tables e below S0 (T27.setTop (mkF m 255 #[.val (.int p1), .val (.int p2), .val (.int p3), .val (.int p4), .val (.int mm), .val (.int sel), .val (.int bs), .val (.int c0), .val (.int ln), .val (.int ct), .val (.double pp), .second, .val (.double qq), .second, .val (.int (1 : Int32))] [(.int ln), (.int (ct + (1 : Int32))), (.double pp)])) := by
        refine r54.trans ?_
        show Steps p.tables e below (T27.setTop (mkF m 235 #[.val (.int p1), .val (.int p2), .val (.int p3), .val (.int p4), .val (.int mm), .val (.int sel), .val (.int bs), .val (.int c0), .val (.int ln), .val (.int ct), .val (.double pp), .second, .val (.double qq), .second, .val (.int (1 : Int32))] [])) _
        refine XS.iload X27.here hx rfl (hb hby at_235) rfl ?_
        show Steps p.tables e below (T27.setTop (mkF m 237 #[.val (.int p1), .val (.int p2), .val (.int p3), .val (.int p4), .val (.int mm), .val (.int sel), .val (.int bs), .val (.int c0), .val (.int ln), .val (.int ct), .val (.double pp), .second, .val (.double qq), .second, .val (.int (1 : Int32))] [(.int ct)])) _
        refine XS.iload X27.here hx rfl (hb hby at_237) rfl ?_
        show Steps p.tables e below (T27.setTop (mkF m 239 #[.val (.int p1), .val (.int p2), .val (.int p3), .val (.int p4), .val (.int mm), .val (.int sel), .val (.int bs), .val (.int c0), .val (.int ln), .val (.int ct), .val (.double pp), .second, .val (.double qq), .second, .val (.int (1 : Int32))] [(.int ln), (.int ct)])) _
        refine XS.icmpNo X27.here hx rfl (hb hby at_239) rfl (tlt hlt).2.1 ?_
        show Steps p.tables e below (T27.setTop (mkF m 242 #[.val (.int p1), .val (.int p2), .val (.int p3), .val (.int p4), .val (.int mm), .val (.int sel), .val (.int bs), .val (.int c0), .val (.int ln), .val (.int ct), .val (.double pp), .second, .val (.double qq), .second, .val (.int (1 : Int32))] [])) _
        refine XS.iload X27.here hx rfl (hb hby at_242) rfl ?_
        show Steps p.tables e below (T27.setTop (mkF m 244 #[.val (.int p1), .val (.int p2), .val (.int p3), .val (.int p4), .val (.int mm), .val (.int sel), .val (.int bs), .val (.int c0), .val (.int ln), .val (.int ct), .val (.double pp), .second, .val (.double qq), .second, .val (.int (1 : Int32))] [(.int (1 : Int32))])) _
        refine XS.ifNo X27.here hx rfl (hb hby at_244) rfl ((if0 _ _).trans (feq (by decide)).1) ?_
        show Steps p.tables e below (T27.setTop (mkF m 247 #[.val (.int p1), .val (.int p2), .val (.int p3), .val (.int p4), .val (.int mm), .val (.int sel), .val (.int bs), .val (.int c0), .val (.int ln), .val (.int ct), .val (.double pp), .second, .val (.double qq), .second, .val (.int (1 : Int32))] [])) _
        refine XS.dload X27.here hx rfl (hb hby at_247) rfl ?_
        show Steps p.tables e below (T27.setTop (mkF m 249 #[.val (.int p1), .val (.int p2), .val (.int p3), .val (.int p4), .val (.int mm), .val (.int sel), .val (.int bs), .val (.int c0), .val (.int ln), .val (.int ct), .val (.double pp), .second, .val (.double qq), .second, .val (.int (1 : Int32))] [(.double pp)])) _
        refine XS.iload X27.here hx rfl (hb hby at_249) rfl ?_
        show Steps p.tables e below (T27.setTop (mkF m 251 #[.val (.int p1), .val (.int p2), .val (.int p3), .val (.int p4), .val (.int mm), .val (.int sel), .val (.int bs), .val (.int c0), .val (.int ln), .val (.int ct), .val (.double pp), .second, .val (.double qq), .second, .val (.int (1 : Int32))] [(.int ct), (.double pp)])) _
        refine XS.iconst X27.here hx rfl (hb hby at_251) ?_
        show Steps p.tables e below (T27.setTop (mkF m 252 #[.val (.int p1), .val (.int p2), .val (.int p3), .val (.int p4), .val (.int mm), .val (.int sel), .val (.int bs), .val (.int c0), .val (.int ln), .val (.int ct), .val (.double pp), .second, .val (.double qq), .second, .val (.int (1 : Int32))] [(.int (1 : Int32)), (.int ct), (.double pp)])) _
        refine XS.iadd X27.here hx rfl (hb hby at_252) rfl ?_
        show Steps p.tables e below (T27.setTop (mkF m 253 #[.val (.int p1), .val (.int p2), .val (.int p3), .val (.int p4), .val (.int mm), .val (.int sel), .val (.int bs), .val (.int c0), .val (.int ln), .val (.int ct), .val (.double pp), .second, .val (.double qq), .second, .val (.int (1 : Int32))] [(.int (ct + (1 : Int32))), (.double pp)])) _
        refine XS.iload X27.here hx rfl (hb hby at_253) rfl ?_
        exact Steps.refl _
      obtain ⟨_, _, ⟨T56, L56, k56, n56⟩, -, X56, ⟨Lc56, hQ56, l56, y56, z56⟩, st56⟩ := Jvm.LawKit.callS X27 hx (y := (⟨"com/example/sentence_hunt/sentencehunt/QueryLikelihood", "sentenceProbability", "(II)D"⟩ : MethodName)) hown (mvT hZ (hw _ (List.mem_of_getElem? (i := 1) rfl))) (mvT hZ (hw _ (List.mem_of_getElem? (i := 2) rfl))) (mvT hZ (hw _ (List.mem_of_getElem? (i := 3) rfl))) (mvT hZ (hw _ (List.mem_of_getElem? (i := 4) rfl))) (by decide) (backOf (W := 2) (rm1b l Z a0 hw [] (ct + (1 : Int32)) ln h0 n0 Z0 hlz) hZ (hw _ (List.mem_of_getElem? (i := 4) rfl)) (hw _ (List.mem_of_getElem? (i := 3) rfl)) (by decide) (by decide)) (g := (mkF m 255 #[.val (.int p1), .val (.int p2), .val (.int p3), .val (.int p4), .val (.int mm), .val (.int sel), .val (.int bs), .val (.int c0), .val (.int ln), .val (.int ct), .val (.double pp), .second, .val (.double qq), .second, .val (.int (1 : Int32))] [(.int ln), (.int (ct + (1 : Int32))), (.double pp)])) rfl (by rw [hml]; rfl) (argsL := [(.int (ct + (1 : Int32))), (.int ln)]) (rest := [(.double pp)]) (lenOf pd_0 rfl) rfl (by show 2 * 0 + _ ≤ _; exact Nat.le_of_eq rfl) (hb hby at_255) (fun _ _ => ⟨rfl, e27, (by decide : ((0 + 0) + 0) + 0 ≤ _), (by decide : ((0 + 0) + 0) + 0 ≤ _)⟩)
      dsimp only [Pt.U, Pt.locs, Pt.cells, Pt.slots] at X56 l56 y56 z56 st56 hQ56
      subst l56 y56 z56
      obtain ⟨rfl, Nq56, e56⟩ := hQ56
      have N56 := Fr.app N27 Nq56
      have r57 : Steps p.tables e below S0 (T56.setTop (mkF m 258 #[.val (.int p1), .val (.int p2), .val (.int p3), .val (.int p4), .val (.int mm), .val (.int sel), .val (.int bs), .val (.int c0), .val (.int ln), .val (.int ct), .val (.double pp), .second, .val (.double qq), .second, .val (.int (1 : Int32))] [(.double (FP.ddiv (FP.i2d (ct + (1 : Int32))) (FP.i2d ln))), (.double pp)])) := r55.trans (st56 _ (Steps.refl _))
      have f7 := own_last hlp hn3 hlt hpp
      have r58 : Steps p.tables e below S0 (T56.setTop (mkF m 271 #[.val (.int p1), .val (.int p2), .val (.int p3), .val (.int p4), .val (.int mm), .val (.int sel), .val (.int bs), .val (.int c0), .val (.int ln), .val (.int ct), .val (.double pp), .second, .val (.double qq), .second, .val (.int (1 : Int32))] [(.int (1 : Int32))])) := by
        refine r57.trans ?_
        show Steps p.tables e below (T56.setTop (mkF m 258 #[.val (.int p1), .val (.int p2), .val (.int p3), .val (.int p4), .val (.int mm), .val (.int sel), .val (.int bs), .val (.int c0), .val (.int ln), .val (.int ct), .val (.double pp), .second, .val (.double qq), .second, .val (.int (1 : Int32))] [(.double (FP.ddiv (FP.i2d (ct + (1 : Int32))) (FP.i2d ln))), (.double pp)])) _
        refine XS.dcmpS X56.here hx rfl (hb hby at_258) rfl rfl ?_
        show Steps p.tables e below (T56.setTop (mkF m 259 #[.val (.int p1), .val (.int p2), .val (.int p3), .val (.int p4), .val (.int mm), .val (.int sel), .val (.int bs), .val (.int c0), .val (.int ln), .val (.int ct), .val (.double pp), .second, .val (.double qq), .second, .val (.int (1 : Int32))] [(.int (cmpValue (FP.dcmp pp (FP.ddiv (FP.i2d (ct + (1 : Int32))) (FP.i2d ln))) .g))])) _
        refine XS.ifNo X56.here hx rfl (hb hby at_259) rfl ((if0 _ _).trans (tlt f7).2.1) ?_
        show Steps p.tables e below (T56.setTop (mkF m 262 #[.val (.int p1), .val (.int p2), .val (.int p3), .val (.int p4), .val (.int mm), .val (.int sel), .val (.int bs), .val (.int c0), .val (.int ln), .val (.int ct), .val (.double pp), .second, .val (.double qq), .second, .val (.int (1 : Int32))] [])) _
        refine XS.iconst X56.here hx rfl (hb hby at_262) ?_
        show Steps p.tables e below (T56.setTop (mkF m 263 #[.val (.int p1), .val (.int p2), .val (.int p3), .val (.int p4), .val (.int mm), .val (.int sel), .val (.int bs), .val (.int c0), .val (.int ln), .val (.int ct), .val (.double pp), .second, .val (.double qq), .second, .val (.int (1 : Int32))] [(.int (1 : Int32))])) _
        refine XS.goto X56.here hx rfl (pc0 := 263) (pc' := 267) rfl (hb hby at_263) (by decide) (by decide) ?_
        show Steps p.tables e below (T56.setTop (mkF m 267 #[.val (.int p1), .val (.int p2), .val (.int p3), .val (.int p4), .val (.int mm), .val (.int sel), .val (.int bs), .val (.int c0), .val (.int ln), .val (.int ct), .val (.double pp), .second, .val (.double qq), .second, .val (.int (1 : Int32))] [(.int (1 : Int32))])) _
        refine XS.istore X56.here hx rfl (hb hby at_267) rfl (l' := #[.val (.int p1), .val (.int p2), .val (.int p3), .val (.int p4), .val (.int mm), .val (.int sel), .val (.int bs), .val (.int c0), .val (.int ln), .val (.int ct), .val (.double pp), .second, .val (.double qq), .second, .val (.int (1 : Int32))]) rfl ?_
        show Steps p.tables e below (T56.setTop (mkF m 269 #[.val (.int p1), .val (.int p2), .val (.int p3), .val (.int p4), .val (.int mm), .val (.int sel), .val (.int bs), .val (.int c0), .val (.int ln), .val (.int ct), .val (.double pp), .second, .val (.double qq), .second, .val (.int (1 : Int32))] [])) _
        refine XS.iload X56.here hx rfl (hb hby at_269) rfl ?_
        exact Steps.refl _
      obtain ⟨fs, hr, hrun, hended, hW, hsame⟩ := X56.leave (v := some (.int (1 : Int32))) (fun h => by rw [Bd.returns] at h; cases h)
      refine ⟨_, _, pre0 _ ?_, hrun, hended, _, _, rfl, ?_, ⟨_, rfl⟩, hW, hsame.mono (by decide) (by decide)⟩
      · rw [← hS0]
        refine r58.trans ?_
        show Steps p.tables e below (T56.setTop (mkF m 271 #[.val (.int p1), .val (.int p2), .val (.int p3), .val (.int p4), .val (.int mm), .val (.int sel), .val (.int bs), .val (.int c0), .val (.int ln), .val (.int ct), .val (.double pp), .second, .val (.double qq), .second, .val (.int (1 : Int32))] [(.int (1 : Int32))])) _
        exact retB X56 hx Bd.returns (by first | exact Or.inr rfl | exact Or.inl rfl | (split <;> simp)) (hb hby at_271) hr
      · exact ⟨rfl, N56⟩
    · skip
      have r59 : Steps p.tables e below S0 (T27.setTop (mkF m 271 #[.val (.int p1), .val (.int p2), .val (.int p3), .val (.int p4), .val (.int mm), .val (.int sel), .val (.int bs), .val (.int c0), .val (.int ln), .val (.int ct), .val (.double pp), .second, .val (.double qq), .second, .val (.int (1 : Int32))] [(.int (1 : Int32))])) := by
        refine r54.trans ?_
        show Steps p.tables e below (T27.setTop (mkF m 235 #[.val (.int p1), .val (.int p2), .val (.int p3), .val (.int p4), .val (.int mm), .val (.int sel), .val (.int bs), .val (.int c0), .val (.int ln), .val (.int ct), .val (.double pp), .second, .val (.double qq), .second, .val (.int (1 : Int32))] [])) _
        refine XS.iload X27.here hx rfl (hb hby at_235) rfl ?_
        show Steps p.tables e below (T27.setTop (mkF m 237 #[.val (.int p1), .val (.int p2), .val (.int p3), .val (.int p4), .val (.int mm), .val (.int sel), .val (.int bs), .val (.int c0), .val (.int ln), .val (.int ct), .val (.double pp), .second, .val (.double qq), .second, .val (.int (1 : Int32))] [(.int ct)])) _
        refine XS.iload X27.here hx rfl (hb hby at_237) rfl ?_
        show Steps p.tables e below (T27.setTop (mkF m 239 #[.val (.int p1), .val (.int p2), .val (.int p3), .val (.int p4), .val (.int mm), .val (.int sel), .val (.int bs), .val (.int c0), .val (.int ln), .val (.int ct), .val (.double pp), .second, .val (.double qq), .second, .val (.int (1 : Int32))] [(.int ln), (.int ct)])) _
        refine XS.icmpYes X27.here hx rfl (pc0 := 239) (pc' := 269) rfl (hb hby at_239) rfl (flt hlt).2.1 (by decide) (by decide) ?_
        show Steps p.tables e below (T27.setTop (mkF m 269 #[.val (.int p1), .val (.int p2), .val (.int p3), .val (.int p4), .val (.int mm), .val (.int sel), .val (.int bs), .val (.int c0), .val (.int ln), .val (.int ct), .val (.double pp), .second, .val (.double qq), .second, .val (.int (1 : Int32))] [])) _
        refine XS.iload X27.here hx rfl (hb hby at_269) rfl ?_
        exact Steps.refl _
      obtain ⟨fs, hr, hrun, hended, hW, hsame⟩ := X27.leave (v := some (.int (1 : Int32))) (fun h => by rw [Bd.returns] at h; cases h)
      refine ⟨_, _, pre0 _ ?_, hrun, hended, _, _, rfl, ?_, ⟨_, rfl⟩, hW, hsame.mono (by decide) (by decide)⟩
      · rw [← hS0]
        refine r59.trans ?_
        show Steps p.tables e below (T27.setTop (mkF m 271 #[.val (.int p1), .val (.int p2), .val (.int p3), .val (.int p4), .val (.int mm), .val (.int sel), .val (.int bs), .val (.int c0), .val (.int ln), .val (.int ct), .val (.double pp), .second, .val (.double qq), .second, .val (.int (1 : Int32))] [(.int (1 : Int32))])) _
        exact retB X27 hx Bd.returns (by first | exact Or.inr rfl | exact Or.inl rfl | (split <;> simp)) (hb hby at_271) hr
      · exact ⟨rfl, N27⟩
set_option maxRecDepth 65536 in
set_option maxHeartbeats 40000000 in
theorem comes_1 {Post : Tables → Env → Array Value → State → Outcome → State → Prop} (hpost : ∀ tb e args s v u, (limb_1_1.after args s (.returned v) u = true ∧ limb_1_2.after args s (.returned v) u = true ∧ True) → FrameEnd s (.returned v) u (Jvm.fieldLocs frame_1_writes args s ++ Jvm.arrayLocs frame_1_arrays args s ++ Jvm.staticLocs frame_1_statics s) 0 0 → Post tb e args s (.returned v) u) :
    ArmFor flags0 classFile x code maxLocals ret World_1 tables_1 room_1 Calls_1 rest_1 Pre_1 Post := by
  intro l hfl _ _ p e ha hc hk s m args below hf hA hF happ hP
  obtain ⟨hcalls, hrest, hpre⟩ := hP
  obtain ⟨-, -, -, hnamed, -, -, -, hat⟩ := (Spec.applies_iff hf).mp happ
  obtain ⟨hg, hn⟩ := and_e (Cond.before_iff.mp (show (Jvm.Cond.and given_1 narrow_1).before args s = true from hpre))
  obtain ⟨g0, hg⟩ := and_e hg
  obtain ⟨ga0, hg⟩ := and_e hg
  obtain ⟨ga1, hg⟩ := and_e hg
  obtain ⟨ga2, hg⟩ := and_e hg
  have ga3 := hg
  obtain ⟨w0, w1, w2, w3, rfl⟩ : ∃ w0 w1 w2 w3 : Value, args = #[w0, w1, w2, w3] := by
    have hs : args.size = 4 := by simpa [Cond.value, given_1] using g0
    obtain ⟨L⟩ := args
    match L, hs with
    | [w0, w1, w2, w3], _ => exact ⟨w0, w1, w2, w3, rfl⟩
  have hw := fun d (hd : d ∈ tables_1) => atoms_spec (ws := Jvm.Cond.code x code maxLocals ret :: tables_1) hat d (List.mem_cons_of_mem _ hd)
  have hfit : Fit s := fun {y c} hc i hi => by
    obtain ⟨ha, rfl⟩ := Array.getElem?_eq_some_iff.mp hc
    have q := List.all_eq_true.mp ((Array.all_eq_true_iff_forall_mem.mp hF) _ (Array.getElem_mem ha)) i (List.mem_range.mpr hi)
    simpa [Array.getElem?_eq_getElem hi] using q
  obtain ⟨i0, ei0⟩ := is_v ga0
  obtain rfl : w0 = (.int i0) := Option.some.inj ei0
  obtain ⟨i1, ei1⟩ := is_v ga1
  obtain rfl : w1 = (.int i1) := Option.some.inj ei1
  obtain ⟨i2, ei2⟩ := is_v ga2
  obtain rfl : w2 = (.int i2) := Option.some.inj ei2
  obtain ⟨i3, ei3⟩ := is_v ga3
  obtain rfl : w3 = (.int i3) := Option.some.inj ei3
  obtain ⟨n, o, h1, h2, h3, _, L, rfl, ⟨rfl, N⟩, hq⟩ := rm0 l s _ hw tables_1 i0 i1 i2 i3 s.heap s.heap.size (Nat.le_refl _)  p e ha hc hk s m _ below hf ((Spec.applies_iff_loose hf).mp happ).1 ⟨rfl, State.Warmed39.refl s, rfl⟩ trivial
  refine ⟨n, _, h1, h2, h3, hpost _ _ _ _ _ _ ⟨Cond.after_iff.mpr rfl, Cond.after_iff.mpr (eq_i res_at (Term.int_eval (1)) rfl), trivial⟩ ⟨hq.1, hq.2.1, (hq.2.2.sift fun y hy => Or.inr (N y hy)).mono (by decide) (by decide)⟩⟩
theorem main_1_1 : Claimed_1_1 := comes_1 fun _ _ _ _ _ _ h hF => ⟨h.1, hF⟩
theorem main_1_2 : Claimed_1_2 := comes_1 fun _ _ _ _ _ _ h hF => ⟨h.2.1, hF⟩
end Jvm.Pilot.@@N@@
namespace Jvm.Pilot.@@N@@
open Jvm Jvm.ClassFile Sem Op Lib Jvm.Free Jvm.Stand Jvm.Pilot.@@N@@.Jvm.D
/-! MADE BY PROGRAM (witnessworld.py) out of the Statement's table words and the real class files: 10 classes; the members and pool entries that the words name. The judged class is class 1, her method 1. -/
namespace start1
open Jvm.ClassFile
def u (s : String) : CpInfo := .utf8 (stringToUtf16 s)
/-- a pool by its gaps: so many unusable entries, then the entry; so many at the end -/
def gap : Nat → List CpInfo → List CpInfo
  | 0, r => r
  | n + 1, r => .unusable :: gap n r
def poolList (es : List (Nat × CpInfo)) (last : Nat) : List CpInfo := es.foldr (fun e r => gap e.1 (e.2 :: r)) (gap last [])
def pool (es : List (Nat × CpInfo)) (last : Nat) : Array CpInfo := ⟨poolList es last⟩
def fileOf (pool : Array CpInfo) (this : Nat) (attrs : Array Attribute := #[]) (ms : Array MethodInfo := #[]) (fl : Nat := 33) (sup : Nat := 0) (ifs : Array Nat := #[]) (fds : Array FieldInfo := #[]) : ClassFile where
  minorVersion := 0
  majorVersion := 65
  constantPool := pool
  accessFlags := fl
  thisClass := this
  superClass := sup
  interfaces := ifs
  fields := fds
  methods := ms
  attributes := attrs
def plain (name : String) (sup : Option ClassId) : Class where
  name := name
  kind := .ordinary
  loader := none
  accessFlags := 33
  super := sup
  interfaces := #[]
  cf := none
  fields := #[]
  methods := #[]
  instanceTypes := #[]
  staticTypes := #[]
  resolved := #[]
  callSites := []
  init := .initialized
  statics := none
  mirror := none

def pool0 : Array CpInfo := pool [(5, u "<init>"), (0, u "()V"), (1, .class_ 10), (1, u "java/lang/Object")] 113

def k0m0 : Method := { name := "<init>", desc := "()V", sig := { parameters := [], returnType := none }, accessFlags := 1, code := none }
/-- java/lang/Object -/
def k0 : Class := { plain "java/lang/Object" none with
  accessFlags := 33
  interfaces := #[]
  cf := some (fileOf pool0 8 #[] #[{ accessFlags := 1, nameIndex := 5, descriptorIndex := 6, attributes := #[] }] 33 0 #[] #[])
  fields := #[]
  methods := #[k0m0]
  instanceTypes := #[]
  staticTypes := #[]
  resolved := Array.replicate 124 none
  statics := none }

def pool1 : Array CpInfo := pool [(2, .class_ 4), (1, u "java/lang/Object"), (0, u "<init>"), (0, u "()V"), (0, .integer 2147483647), (0, .methodref 9 10), (0, .class_ 11), (0, .nameAndType 12 13), (0, u "com/example/sentence_hunt/sentencehunt/QueryLikelihood"), (0, u "sentenceProbability"), (0, u "(II)D"), (0, .class_ 15), (0, u "com/example/sentence_hunt/sentencehunt/QueryLikelihoodSentenceProbabilityPinLaw"), (2, u "law"), (0, u "(IIII)Z")] 3

def k1m0 : Method := { name := "<init>", desc := "()V", sig := { parameters := [], returnType := none }, accessFlags := 1, code := none }
def k1c1 : Code := { maxStack := 6, maxLocals := 15, code := code, exceptionTable := #[], attributes := #[] }
def k1m1 : Method := { name := "law", desc := "(IIII)Z", sig := { parameters := [.int, .int, .int, .int], returnType := some .boolean }, accessFlags := 9, code := some k1c1 }
/-- com/example/sentence_hunt/sentencehunt/QueryLikelihoodSentenceProbabilityPinLaw -/
def k1 : Class := { plain "com/example/sentence_hunt/sentencehunt/QueryLikelihoodSentenceProbabilityPinLaw" (some 0) with
  accessFlags := 49
  interfaces := #[]
  cf := some (fileOf pool1 14 #[] #[{ accessFlags := 1, nameIndex := 5, descriptorIndex := 6, attributes := #[] }, { accessFlags := 9, nameIndex := 18, descriptorIndex := 19, attributes := #[] }] 49 2 #[] #[])
  fields := #[]
  methods := #[k1m0, k1m1]
  instanceTypes := #[]
  staticTypes := #[]
  resolved := Array.replicate 23 none
  statics := none }

def pool2 : Array CpInfo := pool [(1, .class_ 2), (0, u "com/example/sentence_hunt/sentencehunt/Model"), (0, .class_ 4), (0, u "java/lang/Object")] 4

/-- com/example/sentence_hunt/sentencehunt/Model -/
def k2 : Class := { plain "com/example/sentence_hunt/sentencehunt/Model" (some 0) with
  accessFlags := 1537
  interfaces := #[]
  cf := some (fileOf pool2 1 #[] #[] 1537 3 #[] #[])
  fields := #[]
  methods := #[]
  instanceTypes := #[]
  staticTypes := #[]
  resolved := Array.replicate 9 none
  statics := none }

def pool3 : Array CpInfo := pool [(2, .class_ 4), (1, u "java/lang/Object"), (0, u "<init>"), (0, u "()V"), (1, .class_ 10), (1, u "com/example/sentence_hunt/sentencehunt/QueryLikelihood"), (0, u "context"), (0, u "Lcom/example/sentence_hunt/sentencehunt/LocalContext;"), (99, .class_ 113), (0, u "com/example/sentence_hunt/sentencehunt/Model"), (8, u "sentenceProbability"), (0, u "(II)D")] 25

def k3m0 : Method := { name := "<init>", desc := "()V", sig := { parameters := [], returnType := none }, accessFlags := 0, code := none }
def k3c1 : Code := { maxStack := 4, maxLocals := 2, code := prog_39_method_5_code, exceptionTable := #[], attributes := #[] }
def k3m1 : Method := { name := "sentenceProbability", desc := "(II)D", sig := { parameters := [.int, .int], returnType := some .double }, accessFlags := 8, code := some k3c1 }
/-- com/example/sentence_hunt/sentencehunt/QueryLikelihood -/
def k3 : Class := { plain "com/example/sentence_hunt/sentencehunt/QueryLikelihood" (some 0) with
  accessFlags := 1057
  interfaces := #[2]
  cf := some (fileOf pool3 8 #[] #[{ accessFlags := 0, nameIndex := 5, descriptorIndex := 6, attributes := #[] }, { accessFlags := 8, nameIndex := 122, descriptorIndex := 123, attributes := #[] }] 1057 2 #[112] #[{ accessFlags := 18, nameIndex := 11, descriptorIndex := 12, attributes := #[] }])
  fields := #[{ name := "context", type := (.object "com/example/sentence_hunt/sentencehunt/LocalContext"), accessFlags := 18, slot := 0, constantValue := 0 }]
  methods := #[k3m0, k3m1]
  instanceTypes := #[(.object "com/example/sentence_hunt/sentencehunt/LocalContext")]
  staticTypes := #[]
  resolved := Array.replicate 149 none
  statics := none }

def pool4 : Array CpInfo := pool [(1, u "java/lang/Cloneable"), (0, .class_ 1), (0, u "java/lang/Object"), (0, .class_ 3)] 3

/-- java/lang/Cloneable -/
def k4 : Class := { plain "java/lang/Cloneable" (some 0) with
  accessFlags := 1537
  interfaces := #[]
  cf := some (fileOf pool4 2 #[] #[] 1537 4 #[] #[])
  fields := #[]
  methods := #[]
  instanceTypes := #[]
  staticTypes := #[]
  resolved := Array.replicate 8 none
  statics := none }

def pool5 : Array CpInfo := pool [(1, u "java/io/Serializable"), (0, .class_ 1), (0, u "java/lang/Object"), (0, .class_ 3)] 3

/-- java/io/Serializable -/
def k5 : Class := { plain "java/io/Serializable" (some 0) with
  accessFlags := 1537
  interfaces := #[]
  cf := some (fileOf pool5 2 #[] #[] 1537 4 #[] #[])
  fields := #[]
  methods := #[]
  instanceTypes := #[]
  staticTypes := #[]
  resolved := Array.replicate 8 none
  statics := none }

/-- the primitive byte -/
def k6 : Class := { plain "byte" none with kind := .primitive 'B', accessFlags := 0x411 }
/-- [B -/
def k7 : Class := { plain "[B" (some 0) with kind := .array 6 .byte, interfaces := #[4, 5], accessFlags := 1041 }

/-- the primitive int -/
def k8 : Class := { plain "int" none with kind := .primitive 'I', accessFlags := 0x411 }
/-- [I -/
def k9 : Class := { plain "[I" (some 0) with kind := .array 8 .int, interfaces := #[4, 5], accessFlags := 1041 }

def heap : Heap := #[]
def classes : Array Class := #[k0, k1, k2, k3, k4, k5, k6, k7, k8, k9]
def interned : List (Array UInt16 × Addr) := []
def slotsUsed : Nat := 0
def theMethod : MethodId := ⟨1, 1⟩
def args0 : Array Value := #[.int 5, .int 5, .int 5, .int 5]
def aboutOver (below : List Frame) : State where
  vm := { classes := classes, interned := interned.toArray }
  heap := heap
  slotsUsed := slotsUsed
  threads := #[{ frames := .invoking theMethod args0 :: below }]
def below0 : List Frame := [.native { method := ⟨0, 0⟩, args := #[] }]
def about1 : State := aboutOver below0
def p0 : Program := .bare "" "" ""
def e0 : Env := launch0.env 0 0 0
theorem w_frames : about1.frames = Frame.invoking theMethod args0 :: below0 := rfl
set_option maxRecDepth 65536 in
theorem w_args : argsFit about1.vm theMethod args0 = true := by decide +kernel
set_option maxRecDepth 65536 in
theorem w_heap : heapFits about1 = true := by decide +kernel
set_option maxRecDepth 65536 in
theorem w_runnable : about1.curStatus? = some .runnable := by decide +kernel
set_option maxRecDepth 65536 in
theorem w_alone : about1.alone = true := by decide +kernel
set_option maxRecDepth 65536 in
theorem w_named : about1.methodNamed? x = some theMethod := by decide +kernel
set_option maxRecDepth 65536 in
theorem w_hears : about1.hears theMethod below0 = true := by decide +kernel
set_option maxRecDepth 65536 in
theorem w_ripe : about1.ripe theMethod args0 below0 = true := by decide +kernel
theorem w_running : about1.status = .running := rfl
set_option maxRecDepth 65536 in
theorem w_room : about1.hasRoom e0.platform room_1 = true :=
  launch0.hasRoom_least _ room_1 (by decide +kernel) (by decide +kernel) (by decide +kernel) (by decide +kernel) (by decide +kernel) (by decide +kernel)
theorem allAtoms_all (ts : List Jvm.Cond) (a : Array Jvm.Value) (st : Jvm.State) : (allAtoms ts).before a st = ts.all (fun c => c.before a st) := by
  induction ts with
  | nil => rfl
  | cons c t ih =>
    show (Jvm.Cond.and c (allAtoms t)).before a st = _
    rw [Jvm.Cond.before_and, ih, List.all_cons]
def words1 : List Jvm.Cond := Jvm.Cond.code x code maxLocals ret :: tables_1
/-- a 'code' word, met by the world's own term for the bytes: nothing is compared byte by byte -/
theorem code_word {y : MethodName} {bytes : ByteArray} {mx : Nat} {rt : Option FieldType} {a : Array Value} {s : State} {m : MethodId} {meth : Method} {c : Code} (h1 : s.methodNamed? y = some m) (h2 : s.vm.method? m = some meth) (h3 : meth.code = some c) (h4 : c.code = bytes)
    (h5 : (c.maxLocals == mx && c.exceptionTable.isEmpty && decide (c.maxStack ≤ mostOperands) && decide (meth.sig.returnType = rt) && !meth.locks && decide (parseMethodDescriptor y.desc = some meth.sig)) = true) : (Jvm.Cond.code y bytes mx rt).before a s = true := by
  simp only [Bool.and_eq_true, beq_iff_eq, Bool.not_eq_true', decide_eq_true_eq] at h5
  obtain ⟨⟨⟨⟨⟨g1, g2⟩, g3⟩, g4⟩, g5⟩, g6⟩ := h5
  simp [Cond.before, Cond.holds, Cond.value, h1, h2, h3, h4, g1, g2, g3, g4, g5, g6]
def isCode : Jvm.Cond → Bool
  | .code _ _ _ _ => true
  | _ => false
theorem all_split {L : List Jvm.Cond} {P : Jvm.Cond → Bool} (h1 : L.all (fun c => isCode c || P c) = true) (h2 : ∀ c ∈ L.filter isCode, P c = true) : L.all P = true := by
  refine List.all_eq_true.mpr fun c hc => ?_
  have h := List.all_eq_true.mp h1 c hc
  rcases Bool.eq_false_or_eq_true (isCode c) with hi | hi
  · exact h2 c (List.mem_filter.mpr ⟨hc, hi⟩)
  · simpa [hi] using h
set_option maxRecDepth 65536 in
theorem w_c0 : (Jvm.Cond.code x code maxLocals ret).before args0 about1 = true := code_word (m := ⟨1, 1⟩) (meth := k1m1) (c := k1c1) (by decide +kernel) rfl rfl rfl (by decide +kernel)
set_option maxRecDepth 65536 in
theorem w_c1 : (Jvm.Cond.code ({ cls := "com/example/sentence_hunt/sentencehunt/QueryLikelihood", name := "sentenceProbability", desc := "(II)D" } : Jvm.MethodName) prog_39_method_5_code (2 : Nat) (Option.some Jvm.ClassFile.FieldType.double)).before args0 about1 = true := code_word (m := ⟨3, 1⟩) (meth := k3m1) (c := k3c1) (by decide +kernel) rfl rfl rfl (by decide +kernel)
def codes1 : List Jvm.Cond := [Jvm.Cond.code x code maxLocals ret, Jvm.Cond.code ({ cls := "com/example/sentence_hunt/sentencehunt/QueryLikelihood", name := "sentenceProbability", desc := "(II)D" } : Jvm.MethodName) prog_39_method_5_code (2 : Nat) (Option.some Jvm.ClassFile.FieldType.double)]
set_option maxRecDepth 65536 in
theorem codes_eq : words1.filter isCode = codes1 := rfl
theorem w_codes : ∀ c ∈ words1.filter isCode, c.before args0 about1 = true := by
  rw [codes_eq]
  intro c hc
  simp only [codes1, List.mem_cons, List.not_mem_nil, or_false] at hc
  rcases hc with rfl | rfl
  · exact w_c0
  · exact w_c1
set_option maxRecDepth 65536 in
theorem w_t1 : words1.all (fun c => isCode c || c.before args0 about1) = true := by decide +kernel
theorem w_tables : (allAtoms (Jvm.Cond.code x code maxLocals ret :: tables_1)).before args0 about1 = true := by
  rw [allAtoms_all]
  show words1.all (fun c => c.before args0 about1) = true
  refine all_split ?_ w_codes
  rw [w_t1]
set_option maxRecDepth 65536 in
theorem w_case : (Jvm.Cond.and given_1 narrow_1).before args0 about1 = true := by decide +kernel
theorem w_applies : (headSpec (Jvm.Cond.code x code maxLocals ret :: tables_1) room_1).applies x e0.platform about1 = true :=
  (Spec.applies_iff w_frames).mpr ⟨w_running, w_runnable, w_alone, w_named, w_hears, w_ripe, w_room, w_tables⟩
theorem atStart : AtStart classFile x code maxLocals ret World_1 tables_1 room_1 Calls_1 rest_1 Pre_1 launch0 p0 e0 about1 theMethod args0 below0 :=
  ⟨lists_1, trivial, launch0.admits_env _ _ _, launch0.least_env, fairChoices_fair.cas, fairChoices_fair.clock, w_frames, w_args, w_heap, w_applies, trivial, trivial, w_case⟩
end start1
theorem witness_1 : WitnessClaimed_1 := ⟨start1.p0, start1.e0, start1.about1, start1.theMethod, start1.args0, start1.below0, start1.atStart⟩
end Jvm.Pilot.@@N@@
