import JvmDerived
import JvmDerived.Pilot.@@N@@Statement
import JvmDerived.Pilot.@@N@@Code
set_option linter.unusedVariables false
set_option linter.unusedSimpArgs false
namespace Jvm.OwnF
open Jvm.FP Jvm.Free.Fl
/-! Exact dyadic arithmetic on doubles: Dy i k u says that the double u is the number i / 2^k. -/
/-- the datum times 2^k -/
def sh (k : Int) : Core.Datum → Core.Datum
  | .nan => .nan
  | .inf s => .inf s
  | .fin s c q => .fin s c (q + k)
def Dy (i : Int) (k : Nat) (u : UInt64) : Prop := Core.Whole i (sh k (Core.val64 u))
theorem ifc3 {α : Type} {p q : Prop} [Decidable p] [Decidable q] {a b c d : α} (h : p ↔ q) (h1 : a = c) (h2 : b = d) : (if p then a else b) = (if q then c else d) := by
  subst h1 h2
  by_cases hp : p
  · rw [if_pos hp, if_pos (h.mp hp)]
  · rw [if_neg hp, if_neg (fun z => hp (h.mpr z))]
theorem mpos {a b : Int} (hb : 0 < b) : 0 < a * b ↔ 0 < a := by
  constructor
  · intro h
    refine Int.lt_of_not_ge fun hle => ?_
    have q := Int.mul_le_mul_of_nonneg_right hle (Int.le_of_lt hb)
    rw [Int.zero_mul] at q
    omega
  · intro h
    exact Int.mul_pos h hb
theorem sh_zero (d : Core.Datum) : sh ((0 : Nat) : Int) d = d := by
  cases d with
  | nan => rfl
  | inf s => rfl
  | fin s c q => show Core.Datum.fin s c (q + ((0 : Nat) : Int)) = _; rw [show q + ((0 : Nat) : Int) = q by omega]
theorem sh_neg (k : Int) (d : Core.Datum) : Core.negate (sh k d) = sh k (Core.negate d) := by cases d <;> rfl
theorem sh_sum (k : Int) (x y : Core.Datum) : Core.exactSum (sh k x) (sh k y) = sh k (Core.exactSum x y) := by
  cases x with
  | nan => cases y <;> rfl
  | inf s =>
    cases y with
    | nan => rfl
    | inf t => show (if s = t then Core.Datum.inf s else .nan) = sh k (if s = t then Core.Datum.inf s else .nan); split <;> rfl
    | fin t d r => rfl
  | fin s c q =>
    cases y with
    | nan => rfl
    | inf t => rfl
    | fin t d r =>
      have hm : min (q + k) (r + k) = min q r + k := by omega
      have hu : Core.sumUnits s c (q + k) t d (r + k) (min (q + k) (r + k)) = Core.sumUnits s c q t d r (min q r) := by
        rw [hm]
        unfold Core.sumUnits Core.inUnits
        rw [show q + k - (min q r + k) = q - min q r by omega, show r + k - (min q r + k) = r - min q r by omega]
      show Core.Datum.fin (Core.sumSign s t (Core.sumUnits s c (q + k) t d (r + k) (min (q + k) (r + k)))) (Core.sumUnits s c (q + k) t d (r + k) (min (q + k) (r + k))).natAbs (min (q + k) (r + k)) = Core.Datum.fin (Core.sumSign s t (Core.sumUnits s c q t d r (min q r))) (Core.sumUnits s c q t d r (min q r)).natAbs (min q r + k)
      rw [hu, hm]
theorem sh_prod (j k : Int) (x y : Core.Datum) : Core.exactProduct (sh j x) (sh k y) = sh (j + k) (Core.exactProduct x y) := by
  cases x with
  | nan => cases y <;> rfl
  | inf s =>
    cases y with
    | nan => rfl
    | inf t => rfl
    | fin t d r => show (if d = 0 then Core.Datum.nan else .inf (s != t)) = sh (j + k) (if d = 0 then Core.Datum.nan else .inf (s != t)); split <;> rfl
  | fin s c q =>
    cases y with
    | nan => rfl
    | inf t => show (if c = 0 then Core.Datum.nan else .inf (s != t)) = sh (j + k) (if c = 0 then Core.Datum.nan else .inf (s != t)); split <;> rfl
    | fin t d r => show Core.Datum.fin (s != t) (c * d) (q + j + (r + k)) = Core.Datum.fin (s != t) (c * d) (q + r + (j + k)); rw [show q + j + (r + k) = q + r + (j + k) by omega]
theorem sh_order (k : Int) (x y : Core.Datum) : Core.order (sh k x) (sh k y) = Core.order x y := by
  cases x with
  | nan => cases y <;> rfl
  | inf s => cases y <;> rfl
  | fin s c q =>
    cases y with
    | nan => rfl
    | inf t => rfl
    | fin t d r =>
      have hm : min (q + k) (r + k) = min q r + k := by omega
      show some (compare (Core.signed s (Core.inUnits c (q + k) (min (q + k) (r + k)))) (Core.signed t (Core.inUnits d (r + k) (min (q + k) (r + k))))) = some (compare (Core.signed s (Core.inUnits c q (min q r))) (Core.signed t (Core.inUnits d r (min q r))))
      unfold Core.inUnits
      rw [hm, show q + k - (min q r + k) = q - min q r by omega, show r + k - (min q r + k) = r - min q r by omega]
theorem sgn_whole {i : Int} {s : Bool} {c : Nat} {q : Int} (h : Core.Whole i (.fin s c q)) : Core.signed s i.natAbs = i := by
  by_cases hi0 : i = 0
  · rw [hi0]; exact Core.signed_zero s
  · rw [Core.whole_sign h hi0]
    unfold Core.signed
    by_cases h : i < 0 <;> simp [h] <;> omega
/-- n / 2^k, rounded, is exact -/
theorem ratio_exact (s : Bool) {n k : Nat} (hn : n ≤ 2 ^ 53) (hk : k ≤ 1000) : ∃ c q, Core.roundRatio Core.b64 s n 1 (-(k : Int)) = .fin s c q ∧ n * 2 ^ (-(q + k)).toNat = c * 2 ^ (q + k).toNat := by
  by_cases h0 : n = 0
  · subst h0
    exact ⟨0, Core.b64.qmin, rfl, by simp⟩
  · obtain ⟨c', q', hfit, hv⟩ := Core.natFit Core.good_b64 Core.wide_b64 s (n := n) hn
    obtain ⟨f1, f2, f3, f4⟩ := hfit
    have e53 : 2 ^ Core.b64.p = 9007199254740992 := by decide
    have hmin : Core.b64.qmin = -1074 := by decide
    rw [e53] at f1
    rw [Nat.mul_one] at hv
    have hq : -53 < q' := by
      refine Int.lt_of_not_ge fun hle => ?_
      rw [show (q' - 0).toNat = 0 by omega, Nat.pow_zero, Nat.mul_one] at hv
      have h1 : 2 ^ 53 ≤ 2 ^ (0 - q').toNat := Nat.pow_le_pow_right (by decide) (by omega)
      have h2 : 1 * 2 ^ (0 - q').toNat ≤ n * 2 ^ (0 - q').toNat := Nat.mul_le_mul_right _ (by omega)
      have h3 : (2 : Nat) ^ 53 = 9007199254740992 := by decide
      omega
    have ht : Core.b64.tails ≤ c' := f4.resolve_left (by omega)
    have hfit' : Core.fits Core.b64 (.fin s c' (q' - k)) := ⟨by rw [e53]; exact f1, by omega, by omega, Or.inr ht⟩
    refine ⟨c', q' - k, Core.roundRatio_exact Core.good_b64 (by decide) hfit' ?_, ?_⟩
    · rw [Nat.mul_one, show (-(k : Int) - (q' - k)).toNat = (0 - q').toNat by omega, show (q' - k - -(k : Int)).toNat = (q' - 0).toNat by omega]
      exact hv
    · rw [show (-(q' - (k : Int) + k)).toNat = (0 - q').toNat by omega, show (q' - (k : Int) + k).toNat = (q' - 0).toNat by omega]
      exact hv
theorem whole_ratio (s : Bool) {i : Int} {k : Nat} (hs : Core.signed s i.natAbs = i) (hi : i.natAbs ≤ 2 ^ 53) (hk : k ≤ 1000) : Core.Whole i (sh k (Core.roundRatio Core.b64 s i.natAbs 1 (-(k : Int)))) := by
  obtain ⟨c, q, e, hv⟩ := ratio_exact s hi hk
  rw [e]
  show Core.signed s (c * 2 ^ (q + (k : Int)).toNat) = i * ((2 ^ (-(q + (k : Int))).toNat : Nat) : Int)
  rw [← hv, Core.signed_mul, hs]
/-- what i / 2^k rounds to -/
theorem round_eq {i : Int} {k : Nat} {s : Bool} {c : Nat} {q : Int} (h : Core.Whole i (sh k (.fin s c q))) : Core.round Core.b64 (.fin s c q) = Core.roundRatio Core.b64 s i.natAbs 1 (-(k : Int)) := by
  refine Core.roundRatio_congr (by decide) (by decide) ?_
  have h1 := Core.whole_natAbs (show Core.Whole i (.fin s c (q + (k : Int))) from h)
  rw [show (q - -(k : Int)).toNat = (q + (k : Int)).toNat by omega, show (-(k : Int) - q).toNat = (-(q + (k : Int))).toNat by omega, Nat.mul_one, Nat.mul_one]
  exact h1
theorem round_dy {i : Int} {k : Nat} {d : Core.Datum} (h : Core.Whole i (sh k d)) (hi : i.natAbs ≤ 2 ^ 53) (hk : k ≤ 1000) : Core.Whole i (sh k (Core.round Core.b64 d)) := by
  cases d with
  | nan => exact h.elim
  | inf => exact h.elim
  | fin s c q =>
    rw [round_eq h]
    exact whole_ratio s (sgn_whole (show Core.Whole i (.fin s c (q + (k : Int))) from h)) hi hk
theorem Dy.shape {i : Int} {k : Nat} {u : UInt64} (h : Dy i k u) : ∃ s c q, Core.val64 u = .fin s c q := by
  unfold Dy at h
  cases e : Core.val64 u with
  | nan => rw [e] at h; exact h.elim
  | inf s => rw [e] at h; exact h.elim
  | fin s c q => exact ⟨s, c, q, rfl⟩
theorem Dy.ne_nan {i : Int} {k : Nat} {u : UInt64} (h : Dy i k u) : Core.val64 u ≠ .nan := by
  obtain ⟨s, c, q, e⟩ := h.shape
  rw [e]; exact nofun
theorem Dy.noNaN {i : Int} {k : Nat} {u : UInt64} (h : Dy i k u) : NoNaN64 u := val64_no.mpr h.ne_nan
theorem Dy.of_int {i : Int} {u : UInt64} (h : Core.DInt i u) : Dy i 0 u := by
  unfold Dy; rw [sh_zero]; exact h
theorem Dy.add {i j : Int} {k : Nat} {a b : UInt64} (ha : Dy i k a) (hb : Dy j k b) (h : (i + j).natAbs ≤ 2 ^ 53) (hk : k ≤ 1000) : Dy (i + j) k (FP.dadd a b) := by
  unfold Dy
  rw [show Core.val64 (FP.dadd a b) = _ from Core.val64_dadd a b]
  exact round_dy (by rw [← sh_sum]; exact Core.whole_sum ha hb) h hk
theorem Dy.sub {i j : Int} {k : Nat} {a b : UInt64} (ha : Dy i k a) (hb : Dy j k b) (h : (i - j).natAbs ≤ 2 ^ 53) (hk : k ≤ 1000) : Dy (i - j) k (FP.dsub a b) := by
  unfold Dy
  rw [show Core.val64 (FP.dsub a b) = _ from Core.val64_dsub a b]
  exact round_dy (by rw [← sh_sum, ← sh_neg]; exact Core.whole_sum ha (Core.whole_negate hb)) h hk
theorem Dy.mul {i j : Int} {k l : Nat} {a b : UInt64} (ha : Dy i k a) (hb : Dy j l b) (h : (i * j).natAbs ≤ 2 ^ 53) (hk : k + l ≤ 1000) : Dy (i * j) (k + l) (FP.dmul a b) := by
  unfold Dy
  rw [show Core.val64 (FP.dmul a b) = _ from Core.val64_dmul a b]
  exact round_dy (by rw [Int.natCast_add, ← sh_prod]; exact Core.whole_product ha hb) h hk
theorem Dy.cmp {i j : Int} {k : Nat} {a b : UInt64} (ha : Dy i k a) (hb : Dy j k b) : FP.dcmp a b = some (compare i j) := by
  show Core.order (Core.val64 a) (Core.val64 b) = _
  rw [← sh_order k]
  exact Core.order_whole ha hb
theorem Dy.scale {i : Int} {k : Nat} {a : UInt64} (ha : Dy i k a) (j : Nat) : Dy (i * (2 ^ j : Nat)) (k + j) a := by
  obtain ⟨s, c, q, e⟩ := ha.shape
  unfold Dy at ha ⊢
  rw [e] at ha ⊢
  have h1 : Core.Whole ((2 ^ j : Nat) : Int) (.fin false 1 (j : Int)) := by
    show Core.signed false (1 * 2 ^ ((j : Int)).toNat) = ((2 ^ j : Nat) : Int) * ((2 ^ (-(j : Int)).toNat : Nat) : Int)
    rw [show (-(j : Int)).toNat = 0 by omega, show ((j : Int)).toNat = j by omega]
    simp [Core.signed]
  have h2 := Core.whole_product ha h1
  have e2 : Core.exactProduct (sh k (.fin s c q)) (.fin false 1 (j : Int)) = sh ((k + j : Nat) : Int) (.fin s c q) := by
    show Core.Datum.fin (s != false) (c * 1) (q + (k : Int) + (j : Int)) = Core.Datum.fin s c (q + ((k + j : Nat) : Int))
    rw [Nat.mul_one, show (s != false) = s by cases s <;> rfl, show q + (k : Int) + (j : Int) = q + ((k + j : Nat) : Int) by omega]
  rw [e2] at h2
  exact h2
theorem whole_unscale {i : Int} {s : Bool} {c j : Nat} {q : Int} (h : Core.Whole (i * ((2 ^ j : Nat) : Int)) (.fin s c (q + (j : Int)))) : Core.Whole i (.fin s c q) := by
  have h1 : Core.signed s (c * 2 ^ (q + (j : Int)).toNat) = i * ((2 ^ j : Nat) : Int) * ((2 ^ (-(q + (j : Int))).toNat : Nat) : Int) := h
  show Core.signed s (c * 2 ^ q.toNat) = i * ((2 ^ (-q).toNat : Nat) : Int)
  have p2 : ((2 ^ j * 2 ^ (-(q + (j : Int))).toNat : Nat) : Int) ≠ 0 := by
    have := Nat.mul_pos (Nat.two_pow_pos j) (Nat.two_pow_pos (-(q + (j : Int))).toNat); omega
  refine Int.eq_of_mul_eq_mul_right p2 ?_
  have hx : q.toNat + (j + (-(q + (j : Int))).toNat) = (q + (j : Int)).toNat + (-q).toNat := by omega
  calc Core.signed s (c * 2 ^ q.toNat) * ((2 ^ j * 2 ^ (-(q + (j : Int))).toNat : Nat) : Int)
      = Core.signed s (c * 2 ^ (q.toNat + (j + (-(q + (j : Int))).toNat))) := by
        rw [← Core.signed_mul, Nat.pow_add 2 q.toNat, Nat.pow_add 2 j, Nat.mul_assoc c]
    _ = Core.signed s (c * 2 ^ (q + (j : Int)).toNat * 2 ^ (-q).toNat) := by rw [hx, Nat.pow_add, Nat.mul_assoc c]
    _ = i * ((2 ^ j : Nat) : Int) * ((2 ^ (-(q + (j : Int))).toNat : Nat) : Int) * ((2 ^ (-q).toNat : Nat) : Int) := by rw [Core.signed_mul, h1]
    _ = i * ((2 ^ (-q).toNat : Nat) : Int) * ((2 ^ j * 2 ^ (-(q + (j : Int))).toNat : Nat) : Int) := by rw [Int.natCast_mul]; ac_rfl
theorem sh_unscale {i : Int} {k j : Nat} {d : Core.Datum} (h : Core.Whole (i * ((2 ^ j : Nat) : Int)) (sh ((k + j : Nat) : Int) d)) : Core.Whole i (sh k d) := by
  cases d with
  | nan => exact h.elim
  | inf => exact h.elim
  | fin s c q =>
    refine whole_unscale (j := j) ?_
    have e : q + ((k + j : Nat) : Int) = q + (k : Int) + (j : Int) := by omega
    have h' : Core.Whole (i * ((2 ^ j : Nat) : Int)) (.fin s c (q + ((k + j : Nat) : Int))) := h
    rw [e] at h'; exact h'
theorem Dy.unscale {i : Int} {k j : Nat} {u : UInt64} (h : Dy (i * ((2 ^ j : Nat) : Int)) (k + j) u) : Dy i k u := sh_unscale h
theorem Dy.mulTo {i j n : Int} {k l r t : Nat} {a b : UInt64} (ha : Dy i k a) (hb : Dy j l b) (hn : i * j = n * ((2 ^ t : Nat) : Int)) (hr : k + l = r + t) (h : n.natAbs ≤ 2 ^ 53) (hk : r ≤ 1000) : Dy n r (FP.dmul a b) := by
  unfold Dy
  rw [show Core.val64 (FP.dmul a b) = _ from Core.val64_dmul a b]
  refine round_dy (sh_unscale (j := t) ?_) h hk
  have h1 := Core.whole_product ha hb
  rw [sh_prod, hn, ← Int.natCast_add, hr] at h1
  exact h1
theorem Dy.cast {i i' : Int} {k k' : Nat} {a : UInt64} (ha : Dy i k a) (hi : i = i') (hk : k = k') : Dy i' k' a := by subst hi hk; exact ha
theorem Dy.unique {i : Int} {k : Nat} {a b : UInt64} (ha : Dy i k a) (hb : Dy i k b) (hi : i ≠ 0) : a = b := by
  obtain ⟨s, c, q, e⟩ := ha.shape
  obtain ⟨t, d, r, e'⟩ := hb.shape
  refine Core.val64_inj ha.ne_nan ?_
  have f1 := Core.round_of_fits Core.good_b64 (Core.val64_fits a)
  have f2 := Core.round_of_fits Core.good_b64 (Core.val64_fits b)
  have ha' := ha; have hb' := hb
  unfold Dy at ha' hb'
  rw [e] at ha' f1; rw [e'] at hb' f2
  rw [e, e', ← f1, ← f2, round_eq ha', round_eq hb', Core.whole_sign (show Core.Whole i (.fin s c (q + (k : Int))) from ha') hi, Core.whole_sign (show Core.Whole i (.fin t d (r + (k : Int))) from hb') hi]
/-- the quotient of two dyadics, the divisor positive, is the ratio rounded -/
theorem div_val {i j : Int} {k : Nat} {a b : UInt64} (ha : Dy i k a) (hb : Dy j 0 b) (hj : 0 < j) : ∃ s, Core.signed s i.natAbs = i ∧ Core.val64 (FP.ddiv a b) = Core.roundRatio Core.b64 s i.natAbs j.natAbs (-(k : Int)) := by
  obtain ⟨s, c, q, e⟩ := ha.shape
  obtain ⟨t, d, r, e'⟩ := hb.shape
  have ha' := ha; have hb' := hb
  unfold Dy at ha' hb'
  rw [e] at ha'; rw [e', sh_zero] at hb'
  have ha2 : Core.Whole i (.fin s c (q + (k : Int))) := ha'
  have ht : t = false := by rw [Core.whole_sign hb' (by omega)]; simp; omega
  have hd : d ≠ 0 := fun hd => by have := (Core.whole_zero hb').mp hd; omega
  refine ⟨s, sgn_whole ha2, ?_⟩
  rw [show Core.val64 (FP.ddiv a b) = _ from Core.val64_ddiv a b, e, e']
  show (if d = 0 then (if c = 0 then Core.Datum.nan else .inf (s != t)) else Core.roundRatio Core.b64 (s != t) c d (q - r)) = _
  rw [if_neg hd, ht, show (s != false) = s by cases s <;> rfl]
  refine Core.roundRatio_congr (by omega) (by omega) ?_
  have h1 := Core.whole_natAbs ha2
  have h2 := Core.whole_natAbs hb'
  rw [show (q - r - -(k : Int)) = (q + (k : Int)) - r by omega, show (-(k : Int) - (q - r)) = r - (q + (k : Int)) by omega]
  generalize q + (k : Int) = A at h1 ⊢
  generalize i.natAbs = I at h1 ⊢
  generalize j.natAbs = J at h2 ⊢
  refine Nat.eq_of_mul_eq_mul_right (Nat.mul_pos (Nat.two_pow_pos (-A).toNat) (Nat.two_pow_pos r.toNat)) ?_
  have hx : (A - r).toNat + ((-A).toNat + r.toNat) = A.toNat + (-r).toNat + (r - A).toNat := by omega
  calc c * J * 2 ^ (A - r).toNat * (2 ^ (-A).toNat * 2 ^ r.toNat)
      = c * J * 2 ^ ((A - r).toNat + ((-A).toNat + r.toNat)) := by rw [Nat.pow_add, Nat.pow_add]; ac_rfl
    _ = (c * 2 ^ A.toNat) * (J * 2 ^ (-r).toNat) * 2 ^ (r - A).toNat := by rw [hx, Nat.pow_add, Nat.pow_add]; ac_rfl
    _ = (I * 2 ^ (-A).toNat) * (d * 2 ^ r.toNat) * 2 ^ (r - A).toNat := by rw [h1, h2]
    _ = I * d * 2 ^ (r - A).toNat * (2 ^ (-A).toNat * 2 ^ r.toNat) := by ac_rfl
theorem Dy.div {i j m : Int} {k : Nat} {a b : UInt64} (ha : Dy i k a) (hb : Dy j 0 b) (hj : 0 < j) (hm : i = m * j) (h : m.natAbs ≤ 2 ^ 53) (hk : k ≤ 1000) : Dy m k (FP.ddiv a b) := by
  obtain ⟨s, hs, e⟩ := div_val ha hb hj
  unfold Dy
  have hn : i.natAbs = m.natAbs * j.natAbs := by rw [hm, Int.natAbs_mul]
  have e2 : Core.roundRatio Core.b64 s i.natAbs j.natAbs (-(k : Int)) = Core.roundRatio Core.b64 s m.natAbs 1 (-(k : Int)) := by
    refine Core.roundRatio_congr (by omega) (by decide) ?_
    rw [hn, Nat.mul_one]
  rw [e, e2]
  refine whole_ratio s ?_ h hk
  have h3 : Core.signed s i.natAbs = Core.signed s m.natAbs * j := by
    rw [hn, Core.signed_mul, show ((j.natAbs : Nat) : Int) = j by omega]
  rw [hs, hm] at h3
  exact (Int.eq_of_mul_eq_mul_right (by omega) h3).symm
/-- equal ratios, equally rounded -/
theorem div_cmp_eq {i j i' j' : Int} {k k' : Nat} {a b a' b' : UInt64} (ha : Dy i k a) (hb : Dy j 0 b) (hj : 0 < j) (ha' : Dy i' k' a') (hb' : Dy j' 0 b') (hj' : 0 < j') (hk : k ≤ 1000) (hk' : k' ≤ 1000)
    (h : i * j' * (2 ^ k' : Nat) = i' * j * (2 ^ k : Nat)) : FP.dcmp (FP.ddiv a b) (FP.ddiv a' b') = some .eq := by
  by_cases hi : i = 0
  · subst hi
    have hi' : i' = 0 := by
      rw [Int.zero_mul, Int.zero_mul] at h
      have p1 : ((2 ^ k : Nat) : Int) ≠ 0 := by have := Nat.two_pow_pos k; omega
      rcases Int.mul_eq_zero.mp h.symm with q | q
      · rcases Int.mul_eq_zero.mp q with q | q
        · exact q
        · omega
      · exact absurd q p1
    subst hi'
    have d1 := (ha.div hb hj (m := 0) (by omega) (by decide) hk).scale k'
    have d2 := (ha'.div hb' hj' (m := 0) (by omega) (by decide) hk').scale k
    have e2 : k' + k = k + k' := by omega
    rw [Dy.cmp d1 (d2.cast rfl e2)]
    simp [Core.compare_self_int]
  · obtain ⟨s, hs, e⟩ := div_val ha hb hj
    obtain ⟨s', hs', e'⟩ := div_val ha' hb' hj'
    have n1 := congrArg Int.natAbs h
    rw [Int.natAbs_mul, Int.natAbs_mul, Int.natAbs_mul, Int.natAbs_mul, Int.natAbs_natCast, Int.natAbs_natCast] at n1
    have p1 : (0 : Int) < ((2 ^ k : Nat) : Int) := by have := Nat.two_pow_pos k; omega
    have p2 : (0 : Int) < ((2 ^ k' : Nat) : Int) := by have := Nat.two_pow_pos k'; omega
    have hss : s = s' := by
      have q1 : (0 < i ↔ 0 < i') := by
        have a1 : (0 < i * j' * ((2 ^ k' : Nat) : Int)) ↔ 0 < i := by
          rw [Int.mul_assoc]; exact mpos (Int.mul_pos hj' p2)
        have a2 : (0 < i' * j * ((2 ^ k : Nat) : Int)) ↔ 0 < i' := by
          rw [Int.mul_assoc]; exact mpos (Int.mul_pos hj p1)
        rw [← a1, ← a2, h]
      have hi' : i' ≠ 0 := fun z => by
        rw [z, Int.zero_mul, Int.zero_mul] at h
        rcases Int.mul_eq_zero.mp h with q | q
        · rcases Int.mul_eq_zero.mp q with q | q
          · exact hi q
          · omega
        · omega
      unfold Core.signed at hs hs'
      cases s <;> cases s' <;> simp at hs hs' ⊢ <;> omega
    have ev : Core.val64 (FP.ddiv a b) = Core.val64 (FP.ddiv a' b') := by
      rw [e, e', hss]
      refine Core.roundRatio_congr (by omega) (by omega) ?_
      rcases Nat.le_total k k' with q | q
      · obtain ⟨z, rfl⟩ : ∃ z, k' = k + z := ⟨k' - k, by omega⟩
        rw [show (-(k : Int) - -((k + z : Nat) : Int)).toNat = z by omega, show (-((k + z : Nat) : Int) - -(k : Int)).toNat = 0 by omega, Nat.pow_zero, Nat.mul_one]
        rw [Nat.pow_add] at n1
        refine Nat.eq_of_mul_eq_mul_right (Nat.two_pow_pos k) ?_
        rw [← n1]; ac_rfl
      · obtain ⟨z, rfl⟩ : ∃ z, k = k' + z := ⟨k - k', by omega⟩
        rw [show (-((k' + z : Nat) : Int) - -(k' : Int)).toNat = 0 by omega, show (-(k' : Int) - -((k' + z : Nat) : Int)).toNat = z by omega, Nat.pow_zero, Nat.mul_one]
        rw [Nat.pow_add] at n1
        refine Nat.eq_of_mul_eq_mul_right (Nat.two_pow_pos k') ?_
        rw [n1]; ac_rfl
    have nn : Core.val64 (FP.ddiv a b) ≠ .nan := by rw [e]; exact Core.roundRatio_ne_nan _ _ _ _ _
    show Core.order (Core.val64 (FP.ddiv a b)) (Core.val64 (FP.ddiv a' b')) = _
    rw [← ev]
    exact Core.order_self nn
theorem div_noNaN {i j : Int} {k : Nat} {a b : UInt64} (ha : Dy i k a) (hb : Dy j 0 b) (hj : 0 < j) : NoNaN64 (FP.ddiv a b) := by
  obtain ⟨s, hs, e⟩ := div_val ha hb hj
  exact val64_no.mpr (by rw [e]; exact Core.roundRatio_ne_nan _ _ _ _ _)
/-- what dcmpl and dcmpg push -/
theorem cmpV_of (i j : Int) (o : ClassFile.CmpOp) : Op.cmpValue (some (compare i j)) o = if i < j then -1 else if i = j then 0 else 1 := by
  rw [Core.compare_ite]
  by_cases h1 : i < j
  · rw [if_pos h1, if_pos h1]; cases o <;> rfl
  · rw [if_neg h1, if_neg h1]
    by_cases h2 : i = j
    · rw [if_pos h2, if_pos h2]; cases o <;> rfl
    · rw [if_neg h2, if_neg h2]; cases o <;> rfl
theorem Dy.cmpV {i j : Int} {k : Nat} {a b : UInt64} (ha : Dy i k a) (hb : Dy j k b) (o : ClassFile.CmpOp) : Op.cmpValue (FP.dcmp a b) o = if i < j then -1 else if i = j then 0 else 1 := by
  rw [Dy.cmp ha hb]; exact cmpV_of i j o
theorem dy_zero : Dy 0 0 FP.dconst0 := by
  unfold Dy; rw [sh_zero, show Core.val64 FP.dconst0 = .fin false 0 Core.b64.qmin from Core.val64_dconst0]
  show Core.signed false (0 * _) = 0 * _
  rw [Nat.zero_mul, Int.zero_mul]; rfl
theorem dy_one : Dy 1 0 FP.dconst1 := by
  unfold Dy; rw [sh_zero, show Core.val64 FP.dconst1 = .fin false (2 ^ 52) (-52) from Core.val64_dconst1]
  show Core.signed false (2 ^ 52 * 2 ^ (-52 : Int).toNat) = 1 * ((2 ^ (-(-52 : Int)).toNat : Nat) : Int)
  decide
theorem Dy.of_bits {u : UInt64} {c : Nat} {q : Int} {i : Int} {k : Nat} (h : Core.val64 u = .fin false c q) (hi : ((c * 2 ^ (q + k).toNat : Nat) : Int) = i * ((2 ^ (-(q + k)).toNat : Nat) : Int)) : Dy i k u := by
  unfold Dy; rw [h]; exact hi
theorem Dy.maxz {i : Int} {u : UInt64} (h : Dy i 0 u) : Dy (max i 0) 0 (Jvm.Native.java_lang_Math.nans.pick64 true u FP.dconst0) := by
  have e := Dy.cmp h dy_zero
  unfold Jvm.Native.java_lang_Math.nans.pick64
  rw [e, Core.compare_ite]
  by_cases h1 : i < 0
  · rw [if_pos h1]; exact dy_zero.cast (by omega) rfl
  · rw [if_neg h1]
    by_cases h2 : i = 0
    · rw [if_pos h2]
      show Dy (max i 0) 0 (if ((u >>> 63 == 1) == true) = true then FP.dconst0 else u)
      split
      · exact dy_zero.cast (by omega) rfl
      · exact h.cast (by omega) rfl
    · rw [if_neg h2]; exact h.cast (by omega) rfl
theorem Dy.i2d (x : Int32) : Dy x.toInt 0 (FP.i2d x) := Dy.of_int (Core.i2d_int x)
theorem Dy.l2d {x : Int64} (h : x.toInt.natAbs ≤ 2 ^ 53) : Dy x.toInt 0 (FP.l2d x) := Dy.of_int (Core.l2d_int h)
end Jvm.OwnF
namespace Jvm.OwnF
open Sem ClassFile Op Lib Jvm.Stand Jvm.Free Jvm.LawKit Jvm.RoadKit
/-! Gar Z h a ty N f: at a there is an array of ty, N long, with f i at every place i < N. -/
def Gar (Z : State) (h : Heap) (a : Addr) (ty : FieldType) (N : Nat) (f : Nat → Value) : Prop := ∃ c : Cell, Arr Z h a c ty ∧ c.slots.size = N ∧ ∀ i, i < N → c.slots[i]? = some (f i)
section
variable {Z : State} {h h' : Heap} {a b : Addr} {ty : FieldType} {N : Nat} {f g : Nat → Value} {sl : Nat} {v : Value} {ws : List Addr}
theorem Gar.lt (F : Gar Z h a ty N f) : a < h.size := by obtain ⟨c, A, -⟩ := F; exact A.lt
theorem Gar.ext (F : Gar Z h a ty N f) (E : Ext h h') : Gar Z h' a ty N f := by obtain ⟨c, A, r⟩ := F; exact ⟨c, A.ext E, r⟩
theorem Gar.other (F : Gar Z h b ty N f) (W : Wr h h' a sl v) (q : b ≠ a) : Gar Z h' b ty N f := by obtain ⟨c, A, r⟩ := F; exact ⟨c, A.other W q, r⟩
theorem Gar.keep (F : Gar Z h a ty N f) (K : Keep h h' ws) (q : a ∉ ws) : Gar Z h' a ty N f := by obtain ⟨c, A, r⟩ := F; exact ⟨c, ⟨K.2.1 a c A.1 q, A.2⟩, r⟩
theorem Gar.congr (F : Gar Z h a ty N f) (q : ∀ i, i < N → f i = g i) : Gar Z h a ty N g := by obtain ⟨c, A, S, H⟩ := F; exact ⟨c, A, S, fun i hi => by rw [H i hi, q i hi]⟩
theorem Gar.len (F : Gar Z h a ty N f) {M : Nat} (q : N = M) : Gar Z h a ty M f := q ▸ F
theorem Gar.new {k : ClassId} {z : Int32} (A : Arr Z h a (newA k ty z) ty) : Gar Z h a ty z.toNatClampNeg (fun _ => defaultValue ty) :=
  ⟨_, A, sz_new _ _ _, fun i hi => by simp [newA, hi]⟩
theorem Gar.set (F : Gar Z h a ty N f) (W : Wr h h' a sl v) : Gar Z h' a ty N (fun i => if i = sl then v else f i) := by
  obtain ⟨c, A, S, H⟩ := F
  obtain ⟨c', q1, q2, q3, q4, q5, q6, q7⟩ := wr_at W A.1
  obtain ⟨r1, r2, r3⟩ := q7 rfl
  have A' := Arr.same W A
  have e : c' = c.setSlot sl v := r1
  refine ⟨c', by rw [e]; exact A', by rw [q4]; exact S, fun i hi => ?_⟩
  show c'.slots[i]? = some (if i = sl then v else f i)
  by_cases z : i = sl
  · rw [if_pos z, z]; exact r2
  · rw [if_neg z, q6 i z]; exact H i hi
theorem Gar.ne {N' : Nat} {f' : Nat → Value} {ty' : FieldType} (F : Gar Z h a ty N f) (G : Gar Z h b ty' N' f') (q : N ≠ N') : a ≠ b := fun e => by
  obtain ⟨c, A, S, -⟩ := F
  obtain ⟨c', A', S', -⟩ := G
  subst e
  have := A.1.symm.trans A'.1
  cases this
  omega
end
section
variable {p : Program} {l : Launch} {e : Env} {R : Room} {s : State} {m : MethodId} {args : Array Value} {below : List Frame} {meth : Method} {c : Code} {T : State} {locs : List Loc} {cells slots : Nat} {Z : State} {h : Heap} {a : Addr} {N : Nat} {f : Nat → Value}
theorem in_of {c : Cell} {j : Int32} (S : c.slots.size = N) (hj : ¬ j < 0) (hN : j.toNatClampNeg < N) : ¬ (j < 0 ∨ c.slots.size ≤ j.toNatClampNeg) := fun q => q.elim hj fun z => by omega
theorem ldD (X : Stand p l e R s m args below meth c T locs cells slots) (hx : p.tables.exec = Jvm.exec) (hZ : Z.Warmed39 s.vm) (eT : T.heap = h) (A : Gar Z h a .double N f) {j : Int32} (hj : ¬ j < 0) (hN : j.toNatClampNeg < N) {v : Value} (hv : f j.toNatClampNeg = v) {g : JFrame} (hg : g.method = m) {rest : List Value} (hs : g.stack = .int j :: .ref a :: rest) (hd : decode c.code g.pc = .ok (.daload, 1)) (target : State)
    (hr : Steps p.tables e below (T.setTop { g with pc := g.pc + 1, stack := v :: rest }) target) : Steps p.tables e below (T.setTop g) target := by
  obtain ⟨cl, Ar, S, H⟩ := A
  exact X.daload hx (by rw [eT]; exact Ar.1) (State.isArrayOf_alike hZ.alike Ar.2.1) Ar.2.2 (in_of S hj hN) (by rw [H _ hN, hv]) hg hs hd target hr
theorem ldI (X : Stand p l e R s m args below meth c T locs cells slots) (hx : p.tables.exec = Jvm.exec) (hZ : Z.Warmed39 s.vm) (eT : T.heap = h) (A : Gar Z h a .int N f) {j : Int32} (hj : ¬ j < 0) (hN : j.toNatClampNeg < N) {v : Value} (hv : f j.toNatClampNeg = v) {g : JFrame} (hg : g.method = m) {rest : List Value} (hs : g.stack = .int j :: .ref a :: rest) (hd : decode c.code g.pc = .ok (.iaload, 1)) (target : State)
    (hr : Steps p.tables e below (T.setTop { g with pc := g.pc + 1, stack := v :: rest }) target) : Steps p.tables e below (T.setTop g) target := by
  obtain ⟨cl, Ar, S, H⟩ := A
  exact X.iaload hx (by rw [eT]; exact Ar.1) (State.isArrayOf_alike hZ.alike Ar.2.1) Ar.2.2 (in_of S hj hN) (by rw [H _ hN, hv]) hg hs hd target hr
theorem lnG {ty : FieldType} (X : Stand p l e R s m args below meth c T locs cells slots) (hx : p.tables.exec = Jvm.exec) (hZ : Z.Warmed39 s.vm) (eT : T.heap = h) (A : Gar Z h a ty N f) {z : Int32} (hz : N.toInt32 = z) {g : JFrame} (hg : g.method = m) {rest : List Value} (hs : g.stack = .ref a :: rest) (hd : decode c.code g.pc = .ok (.arraylength, 1)) (target : State)
    (hr : Steps p.tables e below (T.setTop { g with pc := g.pc + 1, stack := .int z :: rest }) target) : Steps p.tables e below (T.setTop g) target := by
  obtain ⟨cl, Ar, S, H⟩ := A
  refine X.arraylength hx (by rw [eT]; exact Ar.1) (State.isArrayOf_alike hZ.alike Ar.2.1) hg hs hd target ?_
  rw [S, hz]; exact hr
theorem stDG (X : Stand p l e R s m args below meth c T locs cells slots) (hx : p.tables.exec = Jvm.exec) (hZ : Z.Warmed39 s.vm) (eT : T.heap = h) (A : Gar Z h a .double N f) {j : Int32} {x : UInt64} (hj : ¬ j < 0) (hN : j.toNatClampNeg < N) {g : JFrame} (hg : g.method = m) {rest : List Value} (hs : g.stack = .double x :: .int j :: .ref a :: rest) (hd : decode c.code g.pc = .ok (.dastore, 1)) :
    ∃ T' h', Stand p l e R s m args below meth c T' (locs ++ [⟨a, j.toNatClampNeg⟩]) cells slots ∧ T'.heap = h' ∧ Wr h h' a j.toNatClampNeg (.double x) ∧ ∀ target, Steps p.tables e below (T'.setTop { g with pc := g.pc + 1, stack := rest }) target → Steps p.tables e below (T.setTop g) target := by
  obtain ⟨cl, Ar, S, H⟩ := A
  exact stD X hx hZ eT Ar (in_of S hj hN) hg hs hd
theorem stIG (X : Stand p l e R s m args below meth c T locs cells slots) (hx : p.tables.exec = Jvm.exec) (hZ : Z.Warmed39 s.vm) (eT : T.heap = h) (A : Gar Z h a .int N f) {j : Int32} {x : Int32} (hj : ¬ j < 0) (hN : j.toNatClampNeg < N) {g : JFrame} (hg : g.method = m) {rest : List Value} (hs : g.stack = .int x :: .int j :: .ref a :: rest) (hd : decode c.code g.pc = .ok (.iastore, 1)) :
    ∃ T' h', Stand p l e R s m args below meth c T' (locs ++ [⟨a, j.toNatClampNeg⟩]) cells slots ∧ T'.heap = h' ∧ Wr h h' a j.toNatClampNeg (.int x) ∧ ∀ target, Steps p.tables e below (T'.setTop { g with pc := g.pc + 1, stack := rest }) target → Steps p.tables e below (T.setTop g) target := by
  obtain ⟨cl, Ar, S, H⟩ := A
  exact stI X hx hZ eT Ar (in_of S hj hN) hg hs hd
theorem clG {ty : FieldType} (X : Stand p l e R s m args below meth c T locs cells slots) (hx : p.tables.exec = Jvm.exec) (hZ : Z.Warmed39 s.vm) {a0 : Array Value} {own ad : String} {index : Nat} (hown : s.vm.findClass own = some m.cls)
    (w1 : (Cond.methodLink own index ⟨ad, "clone", "()Ljava/lang/Object;"⟩).before a0 Z = true) (w2 : (Cond.sameMethod ad "java/lang/Object" "clone" "()Ljava/lang/Object;").before a0 Z = true) (w3 : (Cond.native ⟨"java/lang/Object", "clone", "()Ljava/lang/Object;"⟩).before a0 Z = true)
    (w4 : (Cond.instanceMethod ⟨"java/lang/Object", "clone", "()Ljava/lang/Object;"⟩).before a0 Z = true) (w5 : (Cond.selects ad ⟨ad, "clone", "()Ljava/lang/Object;"⟩ ⟨"java/lang/Object", "clone", "()Ljava/lang/Object;"⟩).before a0 Z = true) (w6 : (Cond.castable ad "java/lang/Cloneable").before a0 Z = true)
    (eT : T.heap = h) (A : Gar Z h a ty N f) (E : Exa Z h a ad) (hfit : ∀ i, i < N → fits ty (f i) = true) {g : JFrame} (hg : g.method = m) (hsize : g.locals.size = c.maxLocals) {rest : List Value} (hst : g.stack = .ref a :: rest) (hd : decode c.code g.pc = .ok (.invokevirtual index, 3))
    (hf : 1 ≤ R.frames) {W cap : Nat} (hW : 2 * g.monitorRoom + (rest.map fun v => v.category).sum ≤ W) (hl : W + 14 ≤ R.locals) (hcap : N ≤ cap) (hc : cells + 1 ≤ R.cells) (hsl : slots + cap ≤ R.slots) :
    ∃ T' h', Stand p l e R s m args below meth c T' locs (cells + 1) (slots + cap) ∧ T'.heap = h' ∧ Ext h h' ∧ Gar Z h' h.size ty N f ∧ Exa Z h' h.size ad ∧
      ∀ target, Steps p.tables e below (T'.setTop { g with pc := g.pc + 3, stack := .ref h.size :: rest }) target → Steps p.tables e below (T.setTop g) target := by
  obtain ⟨cl, Ar, S, H⟩ := A
  have FC : FitC Z cl := fitC_of Ar fun i hi v hv => by rw [H i (by omega)] at hv; cases hv; exact hfit i (by omega)
  obtain ⟨T', h', X', e', ex, A', E', st⟩ := cloneA X hx hZ hown w1 w2 w3 w4 w5 w6 eT Ar E FC hg hsize hst hd hf hW hl (by rw [S]; exact hcap) hc hsl
  exact ⟨T', h', X', e', ex, ⟨cloneOf cl, A', S, H⟩, E', st⟩
end
end Jvm.OwnF
namespace Jvm.OwnF
open Jvm.FP Jvm.Free.Fl
/-- what one add does to mean and squares -/
def AddS (u me sq : UInt64) (c : Int64) (me' sq' : UInt64) : Prop := ∃ d1 d2 d4 d5, FP.dsub u me = d1 ∧ NoNaN64 d1 ∧ FP.ddiv d1 (FP.l2d c) = d2 ∧ NoNaN64 d2 ∧ FP.dadd me d2 = me' ∧ NoNaN64 me' ∧ FP.dsub u me' = d4 ∧ NoNaN64 d4 ∧ FP.dmul d1 d4 = d5 ∧ NoNaN64 d5 ∧ FP.dadd sq d5 = sq' ∧ NoNaN64 sq'
theorem addS_of {u me sq d1 d2 m3 d4 d5 s6 : UInt64} {c : Int64} {i1 i2 i3 i4 i5 i6 : Int} {k1 k2 k3 k4 k5 k6 : Nat} (e1 : FP.dsub u me = d1) (y1 : Dy i1 k1 d1) (e2 : FP.ddiv d1 (FP.l2d c) = d2) (y2 : Dy i2 k2 d2) (e3 : FP.dadd me d2 = m3) (y3 : Dy i3 k3 m3) (e4 : FP.dsub u m3 = d4) (y4 : Dy i4 k4 d4) (e5 : FP.dmul d1 d4 = d5) (y5 : Dy i5 k5 d5) (e6 : FP.dadd sq d5 = s6) (y6 : Dy i6 k6 s6) : AddS u me sq c m3 s6 :=
  ⟨d1, d2, d4, d5, e1, y1.noNaN, e2, y2.noNaN, e3, y3.noNaN, e4, y4.noNaN, e5, y5.noNaN, e6, y6.noNaN⟩
theorem dy_l {c : Int64} {n : Int} (h : c.toInt = n) (hn : n.natAbs ≤ 2 ^ 53) : Dy n 0 (FP.l2d c) := h ▸ Dy.l2d (by rw [h]; exact hn)
theorem st1 {u : UInt64} {c : Int64} {A : Int} (yu : Dy A 0 u) (hA : A.natAbs ≤ 2000000) (hc : c.toInt = 1) : ∃ me' sq', AddS u 0 0 c me' sq' ∧ Dy A 0 me' ∧ Dy 0 0 sq' := by
  have z : Dy 0 0 (0 : UInt64) := dy_zero
  have y1 : Dy A 0 (FP.dsub u 0) := (yu.sub z (by omega) (by decide)).cast (by omega) rfl
  have y2 : Dy A 0 (FP.ddiv (FP.dsub u 0) (FP.l2d c)) := y1.div (dy_l hc (by decide)) (by decide) (by omega) (by omega) (by decide)
  have y3 : Dy A 0 (FP.dadd 0 (FP.ddiv (FP.dsub u 0) (FP.l2d c))) := (z.add y2 (by omega) (by decide)).cast (by omega) rfl
  have y4 : Dy 0 0 (FP.dsub u (FP.dadd 0 (FP.ddiv (FP.dsub u 0) (FP.l2d c)))) := (yu.sub y3 (by omega) (by decide)).cast (by omega) rfl
  have y5 : Dy 0 0 (FP.dmul (FP.dsub u 0) (FP.dsub u (FP.dadd 0 (FP.ddiv (FP.dsub u 0) (FP.l2d c))))) := (y1.mul y4 (by rw [Int.mul_zero]; decide) (by decide)).cast (Int.mul_zero _) rfl
  have y6 := (z.add y5 (by decide) (by decide)).cast (Int.zero_add 0) rfl
  exact ⟨_, _, addS_of rfl y1 rfl y2 rfl y3 rfl y4 rfl y5 rfl y6, y3, y6⟩
theorem sq_le {D : Int} (h : D.natAbs ≤ 4194304) : (D * D).natAbs ≤ 17592186044416 := by rw [Int.natAbs_mul]; exact Nat.mul_le_mul h h
theorem st2 {u me sq : UInt64} {c : Int64} {A B : Int} (yu : Dy B 0 u) (ym : Dy A 0 me) (ys : Dy 0 0 sq) (hA : A.natAbs ≤ 2000000) (hB : B.natAbs ≤ 2000000) (hc : c.toInt = 2) : ∃ me' sq', AddS u me sq c me' sq' ∧ Dy (A + B) 1 me' ∧ Dy ((B - A) * (B - A)) 1 sq' := by
  have hq := sq_le (D := B - A) (by omega)
  have y1 : Dy (B - A) 0 (FP.dsub u me) := yu.sub ym (by omega) (by decide)
  have y1' : Dy ((B - A) * 2) 1 (FP.dsub u me) := (y1.scale 1).cast (by rfl) rfl
  have y2 : Dy (B - A) 1 (FP.ddiv (FP.dsub u me) (FP.l2d c)) := y1'.div (dy_l hc (by decide)) (by decide) rfl (by omega) (by decide)
  have ym' : Dy (A * 2) 1 me := (ym.scale 1).cast (by rfl) rfl
  have yu' : Dy (B * 2) 1 u := (yu.scale 1).cast (by rfl) rfl
  have y3 : Dy (A + B) 1 (FP.dadd me (FP.ddiv (FP.dsub u me) (FP.l2d c))) := (ym'.add y2 (by omega) (by decide)).cast (by omega) rfl
  have y4 : Dy (B - A) 1 (FP.dsub u (FP.dadd me (FP.ddiv (FP.dsub u me) (FP.l2d c)))) := (yu'.sub y3 (by omega) (by decide)).cast (by omega) rfl
  have y5 : Dy ((B - A) * (B - A)) 1 (FP.dmul (FP.dsub u me) (FP.dsub u (FP.dadd me (FP.ddiv (FP.dsub u me) (FP.l2d c))))) := (y1.mul y4 (by omega) (by decide)).cast rfl rfl
  have ys' : Dy 0 1 sq := (ys.scale 1).cast (by rfl) rfl
  have y6 := (ys'.add y5 (by omega) (by decide)).cast (Int.zero_add _) rfl
  exact ⟨_, _, addS_of rfl y1 rfl y2 rfl y3 rfl y4 rfl y5 rfl y6, y3, y6⟩
theorem st3 {u me sq : UInt64} {c : Int64} {S Q : Int} (yu : Dy S 1 u) (ym : Dy S 1 me) (ys : Dy Q 1 sq) (hS : S.natAbs ≤ 4000000) (hQ : Q.natAbs ≤ 17592186044416) (hc : c.toInt = 3) : ∃ me' sq', AddS u me sq c me' sq' ∧ Dy Q 1 sq' := by
  have y1 : Dy 0 1 (FP.dsub u me) := (yu.sub ym (by omega) (by decide)).cast (by omega) rfl
  have y2 : Dy 0 1 (FP.ddiv (FP.dsub u me) (FP.l2d c)) := y1.div (dy_l hc (by decide)) (by decide) (by omega) (by decide) (by decide)
  have y3 : Dy S 1 (FP.dadd me (FP.ddiv (FP.dsub u me) (FP.l2d c))) := (ym.add y2 (by omega) (by decide)).cast (by omega) rfl
  have y4 : Dy 0 1 (FP.dsub u (FP.dadd me (FP.ddiv (FP.dsub u me) (FP.l2d c)))) := (yu.sub y3 (by omega) (by decide)).cast (by omega) rfl
  have y5 : Dy 0 2 (FP.dmul (FP.dsub u me) (FP.dsub u (FP.dadd me (FP.ddiv (FP.dsub u me) (FP.l2d c))))) := (y1.mul y4 (by decide) (by decide)).cast (Int.mul_zero _) rfl
  have ys' : Dy (Q * 2) 2 sq := (ys.scale 1).cast (by rfl) rfl
  have y6 : Dy (Q * 2) 2 _ := (ys'.add y5 (by omega) (by decide)).cast (Int.add_zero _) rfl
  exact ⟨_, _, addS_of rfl y1 rfl y2 rfl y3 rfl y4 rfl y5 rfl y6, Dy.unscale (j := 1) y6⟩
end Jvm.OwnF
namespace Jvm.OwnF
open Jvm.FP Jvm.Free.Fl
/-- what one combine does to mean and squares -/
def CombS (c1 : Int64) (m1 s1 : UInt64) (c2 : Int64) (m2 s2 : UInt64) (t : Int64) (m' s' : UInt64) : Prop := ∃ d1 d2 d3 d4 d5 d6 d7 d8, FP.dsub m2 m1 = d1 ∧ NoNaN64 d1 ∧ FP.dmul d1 (FP.l2d c2) = d2 ∧ NoNaN64 d2 ∧ FP.ddiv d2 (FP.l2d t) = d3 ∧ NoNaN64 d3 ∧ FP.dadd m1 d3 = m' ∧ NoNaN64 m' ∧ FP.dmul d1 d1 = d4 ∧ NoNaN64 d4 ∧ FP.dmul (FP.l2d c1) (FP.l2d c2) = d5 ∧ NoNaN64 d5 ∧ FP.ddiv d5 (FP.l2d t) = d6 ∧ NoNaN64 d6 ∧ FP.dmul d4 d6 = d7 ∧ NoNaN64 d7 ∧ FP.dadd s2 d7 = d8 ∧ NoNaN64 d8 ∧ FP.dadd s1 d8 = s' ∧ NoNaN64 s'
theorem combS_of {c1 c2 t : Int64} {m1 s1 m2 s2 : UInt64} {i1 i2 i3 i4 i5 i6 i7 i8 im is : Int} {k1 k2 k3 k4 k5 k6 k7 k8 km ks : Nat} {d1 d2 d3 d4 d5 d6 d7 d8 m' s' : UInt64} (e1 : FP.dsub m2 m1 = d1) (y1 : Dy i1 k1 d1) (e2 : FP.dmul d1 (FP.l2d c2) = d2) (y2 : Dy i2 k2 d2) (e3 : FP.ddiv d2 (FP.l2d t) = d3) (y3 : Dy i3 k3 d3) (em : FP.dadd m1 d3 = m') (ym : Dy im km m') (e4 : FP.dmul d1 d1 = d4) (y4 : Dy i4 k4 d4) (e5 : FP.dmul (FP.l2d c1) (FP.l2d c2) = d5) (y5 : Dy i5 k5 d5) (e6 : FP.ddiv d5 (FP.l2d t) = d6) (y6 : Dy i6 k6 d6) (e7 : FP.dmul d4 d6 = d7) (y7 : Dy i7 k7 d7) (e8 : FP.dadd s2 d7 = d8) (y8 : Dy i8 k8 d8) (es : FP.dadd s1 d8 = s') (ys : Dy is ks s') : CombS c1 m1 s1 c2 m2 s2 t m' s' :=
  ⟨d1, d2, d3, d4, d5, d6, d7, d8, e1, y1.noNaN, e2, y2.noNaN, e3, y3.noNaN, em, ym.noNaN, e4, y4.noNaN, e5, y5.noNaN, e6, y6.noNaN, e7, y7.noNaN, e8, y8.noNaN, es, ys.noNaN⟩
theorem up1 {i : Int} {k : Nat} {u : UInt64} (h : Dy i k u) : Dy (i * 2) (k + 1) u := (h.scale 1).cast (by rfl) rfl
theorem dn1 {i : Int} {k : Nat} {u : UInt64} (h : Dy (i * 2) (k + 1) u) : Dy i k u := Dy.unscale (j := 1) h
/-- none and one -/
theorem c01 {c1 c2 t : Int64} {m2 s2 : UInt64} {y : Int} (h1 : c1.toInt = 0) (h2 : c2.toInt = 1) (ht : t.toInt = 1) (ym2 : Dy y 0 m2) (ys2 : Dy 0 0 s2) (hy : y.natAbs ≤ 2000000) : ∃ m' s', CombS c1 0 0 c2 m2 s2 t m' s' ∧ Dy y 0 m' ∧ Dy 0 0 s' := by
  have z : Dy 0 0 (0 : UInt64) := dy_zero
  have q := sq_le (D := y) (by omega)
  have y1 : Dy y 0 (FP.dsub m2 0) := (ym2.sub z (by omega) (by decide)).cast (by omega) rfl
  have y2 : Dy y 0 (FP.dmul (FP.dsub m2 0) (FP.l2d c2)) := (y1.mul (dy_l h2 (by decide)) (by omega) (by decide)).cast (by omega) rfl
  have y3 : Dy y 0 (FP.ddiv (FP.dmul (FP.dsub m2 0) (FP.l2d c2)) (FP.l2d t)) := y2.div (dy_l ht (by decide)) (by decide) (by omega) (by omega) (by decide)
  have ym := (z.add y3 (by omega) (by decide)).cast (Int.zero_add _) rfl
  have y4 := y1.mul y1 (by omega) (by decide)
  have y5 : Dy 0 0 (FP.dmul (FP.l2d c1) (FP.l2d c2)) := (dy_l h1 (by decide)).mul (dy_l h2 (by decide)) (by decide) (by decide)
  have y6 : Dy 0 0 (FP.ddiv (FP.dmul (FP.l2d c1) (FP.l2d c2)) (FP.l2d t)) := y5.div (dy_l ht (by decide)) (by decide) (by omega) (by decide) (by decide)
  have y7 : Dy 0 0 (FP.dmul (FP.dmul (FP.dsub m2 0) (FP.dsub m2 0)) (FP.ddiv (FP.dmul (FP.l2d c1) (FP.l2d c2)) (FP.l2d t))) := (y4.mul y6 (by rw [Int.mul_zero]; decide) (by decide)).cast (Int.mul_zero _) rfl
  have y8 := (ys2.add y7 (by decide) (by decide)).cast (Int.zero_add 0) rfl
  have ys := (z.add y8 (by decide) (by decide)).cast (Int.zero_add 0) rfl
  exact ⟨_, _, combS_of rfl y1 rfl y2 rfl y3 rfl ym rfl y4 rfl y5 rfl y6 rfl y7 rfl y8 rfl ys, ym, ys⟩
/-- none and two -/
theorem c02 {c1 c2 t : Int64} {m2 s2 : UInt64} {S E : Int} (h1 : c1.toInt = 0) (h2 : c2.toInt = 2) (ht : t.toInt = 2) (ym2 : Dy S 1 m2) (ys2 : Dy E 1 s2) (hS : S.natAbs ≤ 4000000) (hE : E.natAbs ≤ 17592186044416) : ∃ m' s', CombS c1 0 0 c2 m2 s2 t m' s' ∧ Dy S 1 m' ∧ Dy E 1 s' := by
  have z : Dy 0 0 (0 : UInt64) := dy_zero
  have z1 : Dy 0 1 (0 : UInt64) := up1 z
  have q := sq_le (D := S) (by omega)
  have y1 : Dy S 1 (FP.dsub m2 0) := (ym2.sub z1 (by omega) (by decide)).cast (by omega) rfl
  have y2 : Dy (S * 2) 1 (FP.dmul (FP.dsub m2 0) (FP.l2d c2)) := y1.mul (dy_l h2 (by decide)) (by omega) (by decide)
  have y3 : Dy S 1 (FP.ddiv (FP.dmul (FP.dsub m2 0) (FP.l2d c2)) (FP.l2d t)) := y2.div (dy_l ht (by decide)) (by decide) rfl (by omega) (by decide)
  have ym := (z1.add y3 (by omega) (by decide)).cast (Int.zero_add _) rfl
  have y4 := y1.mul y1 (by omega) (by decide)
  have y5 : Dy 0 0 (FP.dmul (FP.l2d c1) (FP.l2d c2)) := (dy_l h1 (by decide)).mul (dy_l h2 (by decide)) (by decide) (by decide)
  have y6 : Dy 0 0 (FP.ddiv (FP.dmul (FP.l2d c1) (FP.l2d c2)) (FP.l2d t)) := y5.div (dy_l ht (by decide)) (by decide) (by omega) (by decide) (by decide)
  have y7 : Dy (0 * 2) 2 (FP.dmul (FP.dmul (FP.dsub m2 0) (FP.dsub m2 0)) (FP.ddiv (FP.dmul (FP.l2d c1) (FP.l2d c2)) (FP.l2d t))) := (y4.mul y6 (by rw [Int.mul_zero]; decide) (by decide)).cast (Int.mul_zero _) rfl
  have y8 := (ys2.add (dn1 y7) (by omega) (by decide)).cast (Int.add_zero E) rfl
  have ys := (z1.add y8 (by omega) (by decide)).cast (Int.zero_add E) rfl
  exact ⟨_, _, combS_of rfl y1 rfl y2 rfl y3 rfl ym rfl y4 rfl y5 rfl y6 rfl y7 rfl y8 rfl ys, ym, ys⟩
/-- one and one -/
theorem c11 {c1 c2 t : Int64} {m1 s1 m2 s2 : UInt64} {x y : Int} (h1 : c1.toInt = 1) (h2 : c2.toInt = 1) (ht : t.toInt = 2) (ym1 : Dy x 0 m1) (ys1 : Dy 0 0 s1) (ym2 : Dy y 0 m2) (ys2 : Dy 0 0 s2) (hx : x.natAbs ≤ 2000000) (hy : y.natAbs ≤ 2000000) : ∃ m' s', CombS c1 m1 s1 c2 m2 s2 t m' s' ∧ Dy (x + y) 1 m' ∧ Dy ((y - x) * (y - x)) 1 s' := by
  have q := sq_le (D := y - x) (by omega)
  have y1 : Dy (y - x) 0 (FP.dsub m2 m1) := ym2.sub ym1 (by omega) (by decide)
  have y2 : Dy (y - x) 0 (FP.dmul (FP.dsub m2 m1) (FP.l2d c2)) := (y1.mul (dy_l h2 (by decide)) (by omega) (by decide)).cast (by omega) rfl
  have y3 : Dy (y - x) 1 (FP.ddiv (FP.dmul (FP.dsub m2 m1) (FP.l2d c2)) (FP.l2d t)) := (up1 y2).div (dy_l ht (by decide)) (by decide) rfl (by omega) (by decide)
  have ym := ((up1 ym1).add y3 (by omega) (by decide)).cast (show x * 2 + (y - x) = x + y by omega) rfl
  have y4 := y1.mul y1 (by omega) (by decide)
  have y5 : Dy 1 0 (FP.dmul (FP.l2d c1) (FP.l2d c2)) := (dy_l h1 (by decide)).mul (dy_l h2 (by decide)) (by decide) (by decide)
  have y6 : Dy 1 1 (FP.ddiv (FP.dmul (FP.l2d c1) (FP.l2d c2)) (FP.l2d t)) := (up1 y5).div (dy_l ht (by decide)) (by decide) (by decide) (by decide) (by decide)
  have y7 : Dy ((y - x) * (y - x)) 1 (FP.dmul (FP.dmul (FP.dsub m2 m1) (FP.dsub m2 m1)) (FP.ddiv (FP.dmul (FP.l2d c1) (FP.l2d c2)) (FP.l2d t))) := (y4.mul y6 (by rw [Int.mul_one]; omega) (by decide)).cast (Int.mul_one _) rfl
  have y8 := ((up1 ys2).add y7 (by omega) (by decide)).cast (Int.zero_add _) rfl
  have ys := ((up1 ys1).add y8 (by omega) (by decide)).cast (Int.zero_add _) rfl
  exact ⟨_, _, combS_of rfl y1 rfl y2 rfl y3 rfl ym rfl y4 rfl y5 rfl y6 rfl y7 rfl y8 rfl ys, ym, ys⟩
/-- two and two -/
theorem c22 {c1 c2 t : Int64} {m1 s1 m2 s2 : UInt64} {S T E F : Int} (h1 : c1.toInt = 2) (h2 : c2.toInt = 2) (ht : t.toInt = 4) (ym1 : Dy S 1 m1) (ys1 : Dy E 1 s1) (ym2 : Dy T 1 m2) (ys2 : Dy F 1 s2) (hS : S.natAbs ≤ 2097152) (hT : T.natAbs ≤ 2097152) (hE : E.natAbs ≤ 17592186044416) (hF : F.natAbs ≤ 17592186044416) : ∃ m' s', CombS c1 m1 s1 c2 m2 s2 t m' s' ∧ Dy (E * 2 + (F * 2 + (T - S) * (T - S))) 2 s' := by
  have q := sq_le (D := T - S) (by omega)
  have y1 : Dy (T - S) 1 (FP.dsub m2 m1) := ym2.sub ym1 (by omega) (by decide)
  have y2 : Dy (T - S) 0 (FP.dmul (FP.dsub m2 m1) (FP.l2d c2)) := dn1 (y1.mul (dy_l h2 (by decide)) (by omega) (by decide))
  have y3 : Dy (T - S) 2 (FP.ddiv (FP.dmul (FP.dsub m2 m1) (FP.l2d c2)) (FP.l2d t)) := (((up1 (up1 y2))).cast (show (T - S) * 2 * 2 = (T - S) * 4 by omega) rfl).div (dy_l ht (by decide)) (by decide) rfl (by omega) (by decide)
  have ym := ((up1 ym1).add y3 (by omega) (by decide)).cast (show S * 2 + (T - S) = S + T by omega) rfl
  have y4 := y1.mul y1 (by omega) (by decide)
  have y5 : Dy 4 0 (FP.dmul (FP.l2d c1) (FP.l2d c2)) := (dy_l h1 (by decide)).mul (dy_l h2 (by decide)) (by decide) (by decide)
  have y6 : Dy 1 0 (FP.ddiv (FP.dmul (FP.l2d c1) (FP.l2d c2)) (FP.l2d t)) := y5.div (dy_l ht (by decide)) (by decide) (by decide) (by decide) (by decide)
  have y7 : Dy ((T - S) * (T - S)) 2 (FP.dmul (FP.dmul (FP.dsub m2 m1) (FP.dsub m2 m1)) (FP.ddiv (FP.dmul (FP.l2d c1) (FP.l2d c2)) (FP.l2d t))) := (y4.mul y6 (by rw [Int.mul_one]; omega) (by decide)).cast (Int.mul_one _) rfl
  have y8 := (up1 ys2).add y7 (by omega) (by decide)
  have ys := (up1 ys1).add y8 (by omega) (by decide)
  exact ⟨_, _, combS_of rfl y1 rfl y2 rfl y3 rfl ym rfl y4 rfl y5 rfl y6 rfl y7 rfl y8 rfl ys, ys⟩
theorem id2 (a b : Int) : (b - a) * (b - a) = 2 * (a * a + b * b) - (a + b) * (a + b) := by
  have := Int.mul_comm a b
  simp only [Int.sub_mul, Int.mul_sub, Int.add_mul, Int.mul_add]; omega
theorem id4 (a b c d : Int) : ((b - a) * (b - a)) * 2 + (((d - c) * (d - c)) * 2 + (c + d - (a + b)) * (c + d - (a + b))) = 4 * (a * a + b * b + (c * c + d * d)) - (a + b + (c + d)) * (a + b + (c + d)) := by
  have h1 := Int.mul_comm a b; have h2 := Int.mul_comm a c; have h3 := Int.mul_comm a d; have h4 := Int.mul_comm b c; have h5 := Int.mul_comm b d; have h6 := Int.mul_comm c d
  simp only [Int.sub_mul, Int.mul_sub, Int.add_mul, Int.mul_add]; omega
end Jvm.OwnF
namespace Jvm.RoadKit
open Sem ClassFile Op Lib Jvm.Stand Jvm.Free Jvm.LawKit
section New
variable {p : Program} {l : Launch} {e : Env} {R : Room} {s : State} {m : MethodId} {args : Array Value} {below : List Frame} {meth : Method} {c : Code} {T : State} {locs : List Loc} {cells slots : Nat}
theorem retI (X : Stand p l e R s m args below meth c T locs cells slots) (hx : p.tables.exec = Jvm.exec) {pc : Nat} {Ls : Array Slot} {z : Int32} {rest : List Value} (hret : meth.sig.returnType = some .int) (hd : decode c.code pc = .ok (.ireturn, 1)) {fs : List Frame}
    (hl : ∀ (f : JFrame) (acts : List Action), f.method = m → f.locked = none → f.entered = [] → (doReturn e (T.setTop f) acts (some (.int z))).1 = T.setFrames fs) : Steps p.tables e below (T.setTop (mkF m pc Ls (.int z :: rest))) (T.setFrames fs) := by
  have hm' : T.vm.method? m = some meth := X.method'
  have hn : narrow .int (.int z) = .int z := rfl
  show Steps p.tables e below (T.setTop { method := m, pc := pc, locals := Ls, stack := _ :: rest, locked := none }) _
  jvm_step X.here [X.here.top, hx, hd, hm', hret, hn]
  first | (intro acts; rw [hl _ acts rfl rfl rfl]) | rw [hl _ _ rfl rfl rfl]
  exact Steps.refl _
theorem retD (X : Stand p l e R s m args below meth c T locs cells slots) (hx : p.tables.exec = Jvm.exec) {pc : Nat} {Ls : Array Slot} {z : UInt64} {rest : List Value} (hret : meth.sig.returnType = some .double) (hd : decode c.code pc = .ok (.dreturn, 1)) {fs : List Frame}
    (hl : ∀ (f : JFrame) (acts : List Action), f.method = m → f.locked = none → f.entered = [] → (doReturn e (T.setTop f) acts (some (.double z))).1 = T.setFrames fs) : Steps p.tables e below (T.setTop (mkF m pc Ls (.double z :: rest))) (T.setFrames fs) := by
  have hm' : T.vm.method? m = some meth := X.method'
  have hn : narrow .double (.double z) = .double z := rfl
  show Steps p.tables e below (T.setTop { method := m, pc := pc, locals := Ls, stack := _ :: rest, locked := none }) _
  jvm_step X.here [X.here.top, hx, hd, hm', hret, hn]
  first | (intro acts; rw [hl _ acts rfl rfl rfl]) | rw [hl _ _ rfl rfl rfl]
  exact Steps.refl _
theorem retB (X : Stand p l e R s m args below meth c T locs cells slots) (hx : p.tables.exec = Jvm.exec) {pc : Nat} {Ls : Array Slot} {z : Int32} {rest : List Value} (hret : meth.sig.returnType = some .boolean) (hz : z = 0 ∨ z = 1) (hd : decode c.code pc = .ok (.ireturn, 1)) {fs : List Frame}
    (hl : ∀ (f : JFrame) (acts : List Action), f.method = m → f.locked = none → f.entered = [] → (doReturn e (T.setTop f) acts (some (.int z))).1 = T.setFrames fs) : Steps p.tables e below (T.setTop (mkF m pc Ls (.int z :: rest))) (T.setFrames fs) := by
  have q : nar .boolean z = z := by rcases hz with rfl | rfl <;> rfl
  refine retN X hx hret (Or.inl rfl) hd ?_
  rw [q]; exact hl
end New
end Jvm.RoadKit
namespace Jvm.Pilot.@@N@@
open Jvm Jvm.ClassFile Sem Op Lib Jvm.Free Jvm.Stand Jvm.LawKit Jvm.RoadKit Bundle Jvm.Pilot.@@N@@.Jvm.D Jvm.OwnF Jvm.Free.Fl
theorem nb1 {a : Int} (h : a.natAbs ≤ 1048576) : a.natAbs ≤ 2000000 := by omega
theorem nb2 {a b : Int} (h : a.natAbs ≤ 1048576) (g : b.natAbs ≤ 1048576) : (a + b).natAbs ≤ 2097152 := by omega
theorem nb4 {a b : Int} (h : a.natAbs ≤ 1048576) (g : b.natAbs ≤ 1048576) : (a + b).natAbs ≤ 4000000 := by omega
theorem nb3 {a b : Int} (h : a.natAbs ≤ 1048576) (g : b.natAbs ≤ 1048576) : (b - a).natAbs ≤ 4194304 := by omega
theorem nbif {c : Prop} [Decidable c] {x : Int} (h : x.natAbs ≤ 1048576) : (if c then 0 else x).natAbs ≤ 1048576 := by split <;> omega
theorem nb5 {a : Int} (h : a.natAbs ≤ 1048576) : a.natAbs ≤ 1099511627776 := by omega
theorem nb6 {a b c d e f : Int} (h0 : a.natAbs ≤ 1048576) (h1 : b.natAbs ≤ 1048576) (h2 : c.natAbs ≤ 1048576) (h3 : d.natAbs ≤ 1048576) (h4 : e.natAbs ≤ 1048576) (h5 : f.natAbs ≤ 1048576) : (a + b + c + d + e + f).natAbs ≤ 8388608 := by omega
theorem nb7 {a b c d e f : Int} (h0 : a.natAbs ≤ 1099511627776) (h1 : b.natAbs ≤ 1099511627776) (h2 : c.natAbs ≤ 1099511627776) (h3 : d.natAbs ≤ 1099511627776) (h4 : e.natAbs ≤ 1099511627776) (h5 : f.natAbs ≤ 1099511627776) : (a + b + c + d + e + f).natAbs ≤ 8796093022208 := by omega
theorem nb8 {a b : Int} (h : a.natAbs ≤ 8796093022208) (g : b.natAbs ≤ 70368744177664) : (2 * a - b).natAbs ≤ 2 ^ 53 := by omega
theorem nb9 {a b : Int} (h : a.natAbs ≤ 8796093022208) (g : b.natAbs ≤ 70368744177664) : (4 * a - b).natAbs ≤ 2 ^ 53 := by omega
theorem nb10 (x : Int) : x * 2 * 2 = x * 4 := by omega
theorem own_sel (p1 : Int32) : ((p1 &&& (2147483647 : Int32)) % (7 : Int32)) = 0 ∨ ((p1 &&& (2147483647 : Int32)) % (7 : Int32)) = 1 ∨ ((p1 &&& (2147483647 : Int32)) % (7 : Int32)) = 2 ∨ ((p1 &&& (2147483647 : Int32)) % (7 : Int32)) = 3 ∨ ((p1 &&& (2147483647 : Int32)) % (7 : Int32)) = 4 ∨ ((p1 &&& (2147483647 : Int32)) % (7 : Int32)) = 5 ∨ ((p1 &&& (2147483647 : Int32)) % (7 : Int32)) = 6 := by
  have a := c_and p1 2147483647 (by decide)
  have b := (c_irem (p1 &&& (2147483647 : Int32)) 7 7 (by decide)).1 a.1
  generalize (p1 &&& (2147483647 : Int32)) % (7 : Int32) = r at b
  have q : r.toInt = 0 ∨ r.toInt = 1 ∨ r.toInt = 2 ∨ r.toInt = 3 ∨ r.toInt = 4 ∨ r.toInt = 5 ∨ r.toInt = 6 := by omega
  rcases q with q | q | q | q | q | q | q
  · exact Or.inl (Int32.toInt_inj.mp q)
  · exact Or.inr (Or.inl (Int32.toInt_inj.mp q))
  · exact Or.inr (Or.inr (Or.inl (Int32.toInt_inj.mp q)))
  · exact Or.inr (Or.inr (Or.inr (Or.inl (Int32.toInt_inj.mp q))))
  · exact Or.inr (Or.inr (Or.inr (Or.inr (Or.inl (Int32.toInt_inj.mp q)))))
  · exact Or.inr (Or.inr (Or.inr (Or.inr (Or.inr (Or.inl (Int32.toInt_inj.mp q))))))
  · exact Or.inr (Or.inr (Or.inr (Or.inr (Or.inr (Or.inr (Int32.toInt_inj.mp q))))))
theorem own_sl {r : Int32} (h : r = 0 ∨ r = 1 ∨ r = 2 ∨ r = 3 ∨ r = 4 ∨ r = 5 ∨ r = 6) : ¬ r < 0 ∧ r.toNatClampNeg < 7 := by rcases h with rfl | rfl | rfl | rfl | rfl | rfl | rfl <;> decide
def own_ms : Nat → Int32
  | 0 => 0
  | 1 => 0
  | 2 => 0
  | 3 => 1
  | 4 => 2
  | 5 => 1
  | _ => 2
def own_ks : Nat → Int32
  | 0 => 0
  | 1 => 1
  | 2 => 2
  | 3 => 0
  | 4 => 0
  | 5 => 1
  | _ => 2
theorem own_small (x : Int32) : ((x <<< ((11 : Int32) &&& 31)) >>> ((11 : Int32) &&& 31)).toInt.natAbs ≤ 1048576 := by
  have a := c_ishr (x <<< ((11 : Int32) &&& 31)) 11 11 (by decide)
  have r := rng32 (x <<< ((11 : Int32) &&& 31))
  rw [a, show ((2 ^ 11 : Nat) : Int) = 2048 by decide]; omega
theorem own_val {m c x : Int32} (hx : x.toInt.natAbs ≤ 1048576) : ∃ z : Int64, (((if m < c then (0 : Int32) else (1 : Int32)) = 0 ∧ z = 0) ∨ (¬ (if m < c then (0 : Int32) else (1 : Int32)) = 0 ∧ z = x.toInt64)) ∧ z.toInt = (if m < c then 0 else x.toInt) := by
  by_cases h : m < c
  · exact ⟨0, Or.inl ⟨if_pos h, rfl⟩, by rw [if_pos h]; decide⟩
  · exact ⟨x.toInt64, Or.inr ⟨by rw [if_neg h]; decide, rfl⟩, by rw [if_neg h, c_i2l]⟩
theorem own_sqr {m c x : Int32} (hx : x.toInt.natAbs ≤ 1048576) : ∃ z : Int64, (((if m < c then (0 : Int32) else (1 : Int32)) = 0 ∧ z = 0) ∨ (¬ (if m < c then (0 : Int32) else (1 : Int32)) = 0 ∧ z = x.toInt64 * x.toInt64)) ∧ z.toInt = (if m < c then 0 else x.toInt) * (if m < c then 0 else x.toInt) := by
  by_cases h : m < c
  · exact ⟨0, Or.inl ⟨if_pos h, rfl⟩, by rw [if_pos h]; decide⟩
  · refine ⟨_, Or.inr ⟨by rw [if_neg h]; decide, rfl⟩, ?_⟩
    rw [if_neg h]
    have q := c_lmul x.toInt64 x.toInt64; rw [c_i2l] at q
    have r := rng64 (x.toInt64 * x.toInt64)
    have s : (x.toInt * x.toInt).natAbs ≤ 1099511627776 := by rw [Int.natAbs_mul]; exact Nat.mul_le_mul hx hx
    generalize x.toInt * x.toInt = P at *; omega
theorem sq20 {D : Int} (h : D.natAbs ≤ 1048576) : (D * D).natAbs ≤ 1099511627776 := by rw [Int.natAbs_mul]; exact Nat.mul_le_mul h h
theorem add64 {x y : Int64} (h : (x.toInt + y.toInt).natAbs ≤ 4611686018427387904) : (x + y).toInt = x.toInt + y.toInt := by
  have q := c_ladd x y
  have r := rng64 (x + y)
  omega
theorem own_sum {v0 v1 v2 v3 v4 v5 : Int64} (h0 : v0.toInt.natAbs ≤ 1099511627776) (h1 : v1.toInt.natAbs ≤ 1099511627776) (h2 : v2.toInt.natAbs ≤ 1099511627776) (h3 : v3.toInt.natAbs ≤ 1099511627776) (h4 : v4.toInt.natAbs ≤ 1099511627776) (h5 : v5.toInt.natAbs ≤ 1099511627776) : (((((v0 + v1) + v2) + v3) + v4) + v5).toInt = v0.toInt + v1.toInt + v2.toInt + v3.toInt + v4.toInt + v5.toInt := by
  have e1 := add64 (x := v0) (y := v1) (by omega)
  have e2 := add64 (x := v0 + v1) (y := v2) (by rw [e1]; omega)
  have e3 := add64 (x := (v0 + v1) + v2) (y := v3) (by rw [e2, e1]; omega)
  have e4 := add64 (x := ((v0 + v1) + v2) + v3) (y := v4) (by rw [e3, e2, e1]; omega)
  have e5 := add64 (x := (((v0 + v1) + v2) + v3) + v4) (y := v5) (by rw [e4, e3, e2, e1]; omega)
  rw [e5, e4, e3, e2, e1]
theorem own_want {tt : Int32} {t SQ SX : Int} {a b : Int64} (ht : tt.toInt = t ∧ 0 ≤ t ∧ t ≤ 4) (ha : a.toInt = SQ) (hb : b.toInt = SX) (bQ : SQ.natAbs ≤ 8796093022208) (bX : (SX * SX).natAbs ≤ 70368744177664) : ((tt.toInt64 * a) - (b * b)).toInt = t * SQ - SX * SX := by
  have q1 := c_lmul tt.toInt64 a; rw [c_i2l, ht.1, ha] at q1
  have q2 := c_lmul b b; rw [hb] at q2
  have r1 := rng64 (tt.toInt64 * a); have r2 := rng64 (b * b)
  have q3 := c_lsub (tt.toInt64 * a) (b * b); have r3 := rng64 ((tt.toInt64 * a) - (b * b))
  have m1 : (t * SQ).natAbs ≤ 4 * 8796093022208 := by rw [Int.natAbs_mul]; exact Nat.mul_le_mul (by omega) bQ
  generalize t * SQ = P at *; generalize SX * SX = Q at *; omega
theorem own_fw {args : Array Value} {s : State} {w : Addr} {t : Term} (ev : t.eval args s none [] s = some (.ref w)) (h : (Jvm.Cond.eq (Jvm.Term.field t "java/util/OptionalDouble" "isPresent" "Z") (Jvm.Term.int (0 : Int32))).value args s none s [] = some true) : Fld s s.heap w "java/util/OptionalDouble" "isPresent" "Z" (.int (0 : Int32)) := by
  exact Fld.start ((fld_at ev).symm.trans (eqv_i (Term.int_eval 0) h))













theorem d1_0 : decode method_2_code 0 = .ok (.iload_n 0, 1) := by decide +kernel
theorem d1_1 : decode method_2_code 1 = .ok (.bipush 11, 2) := by decide +kernel
theorem d1_3 : decode method_2_code 3 = .ok (.ishl, 1) := by decide +kernel
theorem d1_4 : decode method_2_code 4 = .ok (.bipush 11, 2) := by decide +kernel
theorem d1_6 : decode method_2_code 6 = .ok (.ishr, 1) := by decide +kernel
theorem d1_7 : decode method_2_code 7 = .ok (.ireturn, 1) := by decide +kernel
theorem d2_0 : decode prog_6_method_1_code 0 = .ok (.aload_n 0, 1) := by decide +kernel
theorem d2_1 : decode prog_6_method_1_code 1 = .ok (.invokespecial 1, 3) := by decide +kernel
theorem d2_4 : decode prog_6_method_1_code 4 = .ok (.return_, 1) := by decide +kernel
theorem d4_0 : decode prog_6_method_3_code 0 = .ok (.aload_n 1, 1) := by decide +kernel
theorem d4_1 : decode prog_6_method_3_code 1 = .ok (.getfield 7, 3) := by decide +kernel
theorem d4_4 : decode prog_6_method_3_code 4 = .ok (.lconst 0, 1) := by decide +kernel
theorem d4_5 : decode prog_6_method_3_code 5 = .ok (.lcmp, 1) := by decide +kernel
theorem d4_6 : decode prog_6_method_3_code 6 = .ok (.ifCond .ne 5, 3) := by decide +kernel
theorem d4_9 : decode prog_6_method_3_code 9 = .ok (.aload_n 0, 1) := by decide +kernel
theorem d4_10 : decode prog_6_method_3_code 10 = .ok (.areturn, 1) := by decide +kernel
theorem d4_11 : decode prog_6_method_3_code 11 = .ok (.aload_n 0, 1) := by decide +kernel
theorem d4_12 : decode prog_6_method_3_code 12 = .ok (.getfield 7, 3) := by decide +kernel
theorem d4_15 : decode prog_6_method_3_code 15 = .ok (.aload_n 1, 1) := by decide +kernel
theorem d4_16 : decode prog_6_method_3_code 16 = .ok (.getfield 7, 3) := by decide +kernel
theorem d4_19 : decode prog_6_method_3_code 19 = .ok (.ladd, 1) := by decide +kernel
theorem d4_20 : decode prog_6_method_3_code 20 = .ok (.lstore_n 2, 1) := by decide +kernel
theorem d4_21 : decode prog_6_method_3_code 21 = .ok (.aload_n 1, 1) := by decide +kernel
theorem d4_22 : decode prog_6_method_3_code 22 = .ok (.getfield 13, 3) := by decide +kernel
theorem d4_25 : decode prog_6_method_3_code 25 = .ok (.aload_n 0, 1) := by decide +kernel
theorem d4_26 : decode prog_6_method_3_code 26 = .ok (.getfield 13, 3) := by decide +kernel
theorem d4_29 : decode prog_6_method_3_code 29 = .ok (.dsub, 1) := by decide +kernel
theorem d4_30 : decode prog_6_method_3_code 30 = .ok (.dstore 4, 2) := by decide +kernel
theorem d4_32 : decode prog_6_method_3_code 32 = .ok (.aload_n 0, 1) := by decide +kernel
theorem d4_33 : decode prog_6_method_3_code 33 = .ok (.dup, 1) := by decide +kernel
theorem d4_34 : decode prog_6_method_3_code 34 = .ok (.getfield 13, 3) := by decide +kernel
theorem d4_37 : decode prog_6_method_3_code 37 = .ok (.dload 4, 2) := by decide +kernel
theorem d4_39 : decode prog_6_method_3_code 39 = .ok (.aload_n 1, 1) := by decide +kernel
theorem d4_40 : decode prog_6_method_3_code 40 = .ok (.getfield 7, 3) := by decide +kernel
theorem d4_43 : decode prog_6_method_3_code 43 = .ok (.l2d, 1) := by decide +kernel
theorem d4_44 : decode prog_6_method_3_code 44 = .ok (.dmul, 1) := by decide +kernel
theorem d4_45 : decode prog_6_method_3_code 45 = .ok (.lload_n 2, 1) := by decide +kernel
theorem d4_46 : decode prog_6_method_3_code 46 = .ok (.l2d, 1) := by decide +kernel
theorem d4_47 : decode prog_6_method_3_code 47 = .ok (.ddiv, 1) := by decide +kernel
theorem d4_48 : decode prog_6_method_3_code 48 = .ok (.dadd, 1) := by decide +kernel
theorem d4_49 : decode prog_6_method_3_code 49 = .ok (.putfield 13, 3) := by decide +kernel
theorem d4_52 : decode prog_6_method_3_code 52 = .ok (.aload_n 0, 1) := by decide +kernel
theorem d4_53 : decode prog_6_method_3_code 53 = .ok (.dup, 1) := by decide +kernel
theorem d4_54 : decode prog_6_method_3_code 54 = .ok (.getfield 17, 3) := by decide +kernel
theorem d4_57 : decode prog_6_method_3_code 57 = .ok (.aload_n 1, 1) := by decide +kernel
theorem d4_58 : decode prog_6_method_3_code 58 = .ok (.getfield 17, 3) := by decide +kernel
theorem d4_61 : decode prog_6_method_3_code 61 = .ok (.dload 4, 2) := by decide +kernel
theorem d4_63 : decode prog_6_method_3_code 63 = .ok (.dload 4, 2) := by decide +kernel
theorem d4_65 : decode prog_6_method_3_code 65 = .ok (.dmul, 1) := by decide +kernel
theorem d4_66 : decode prog_6_method_3_code 66 = .ok (.aload_n 0, 1) := by decide +kernel
theorem d4_67 : decode prog_6_method_3_code 67 = .ok (.getfield 7, 3) := by decide +kernel
theorem d4_70 : decode prog_6_method_3_code 70 = .ok (.l2d, 1) := by decide +kernel
theorem d4_71 : decode prog_6_method_3_code 71 = .ok (.aload_n 1, 1) := by decide +kernel
theorem d4_72 : decode prog_6_method_3_code 72 = .ok (.getfield 7, 3) := by decide +kernel
theorem d4_75 : decode prog_6_method_3_code 75 = .ok (.l2d, 1) := by decide +kernel
theorem d4_76 : decode prog_6_method_3_code 76 = .ok (.dmul, 1) := by decide +kernel
theorem d4_77 : decode prog_6_method_3_code 77 = .ok (.lload_n 2, 1) := by decide +kernel
theorem d4_78 : decode prog_6_method_3_code 78 = .ok (.l2d, 1) := by decide +kernel
theorem d4_79 : decode prog_6_method_3_code 79 = .ok (.ddiv, 1) := by decide +kernel
theorem d4_80 : decode prog_6_method_3_code 80 = .ok (.dmul, 1) := by decide +kernel
theorem d4_81 : decode prog_6_method_3_code 81 = .ok (.dadd, 1) := by decide +kernel
theorem d4_82 : decode prog_6_method_3_code 82 = .ok (.dadd, 1) := by decide +kernel
theorem d4_83 : decode prog_6_method_3_code 83 = .ok (.putfield 17, 3) := by decide +kernel
theorem d4_86 : decode prog_6_method_3_code 86 = .ok (.aload_n 0, 1) := by decide +kernel
theorem d4_87 : decode prog_6_method_3_code 87 = .ok (.lload_n 2, 1) := by decide +kernel
theorem d4_88 : decode prog_6_method_3_code 88 = .ok (.putfield 7, 3) := by decide +kernel
theorem d4_91 : decode prog_6_method_3_code 91 = .ok (.aload_n 0, 1) := by decide +kernel
theorem d4_92 : decode prog_6_method_3_code 92 = .ok (.areturn, 1) := by decide +kernel
theorem d5_0 : decode method_3_code 0 = .ok (.iload_n 0, 1) := by decide +kernel
theorem d5_1 : decode method_3_code 1 = .ok (.ifCond .eq 8, 3) := by decide +kernel
theorem d5_4 : decode method_3_code 4 = .ok (.iload_n 1, 1) := by decide +kernel
theorem d5_5 : decode method_3_code 5 = .ok (.i2l, 1) := by decide +kernel
theorem d5_6 : decode method_3_code 6 = .ok (.goto 4, 3) := by decide +kernel
theorem d5_9 : decode method_3_code 9 = .ok (.lconst 0, 1) := by decide +kernel
theorem d5_10 : decode method_3_code 10 = .ok (.lreturn, 1) := by decide +kernel
theorem d6_0 : decode method_4_code 0 = .ok (.iload_n 0, 1) := by decide +kernel
theorem d6_1 : decode method_4_code 1 = .ok (.ifCond .eq 11, 3) := by decide +kernel
theorem d6_4 : decode method_4_code 4 = .ok (.iload_n 1, 1) := by decide +kernel
theorem d6_5 : decode method_4_code 5 = .ok (.i2l, 1) := by decide +kernel
theorem d6_6 : decode method_4_code 6 = .ok (.iload_n 1, 1) := by decide +kernel
theorem d6_7 : decode method_4_code 7 = .ok (.i2l, 1) := by decide +kernel
theorem d6_8 : decode method_4_code 8 = .ok (.lmul, 1) := by decide +kernel
theorem d6_9 : decode method_4_code 9 = .ok (.goto 4, 3) := by decide +kernel
theorem d6_12 : decode method_4_code 12 = .ok (.lconst 0, 1) := by decide +kernel
theorem d6_13 : decode method_4_code 13 = .ok (.lreturn, 1) := by decide +kernel
theorem d7_0 : decode prog_6_method_4_code 0 = .ok (.iload_n 1, 1) := by decide +kernel
theorem d7_1 : decode prog_6_method_4_code 1 = .ok (.ifCond .eq 12, 3) := by decide +kernel
theorem d7_13 : decode prog_6_method_4_code 13 = .ok (.aload_n 0, 1) := by decide +kernel
theorem d7_14 : decode prog_6_method_4_code 14 = .ok (.getfield 7, 3) := by decide +kernel
theorem d7_17 : decode prog_6_method_4_code 17 = .ok (.lstore_n 2, 1) := by decide +kernel
theorem d7_18 : decode prog_6_method_4_code 18 = .ok (.lload_n 2, 1) := by decide +kernel
theorem d7_19 : decode prog_6_method_4_code 19 = .ok (.lconst 1, 1) := by decide +kernel
theorem d7_20 : decode prog_6_method_4_code 20 = .ok (.lcmp, 1) := by decide +kernel
theorem d7_21 : decode prog_6_method_4_code 21 = .ok (.ifCond .ge 9, 3) := by decide +kernel
theorem d7_24 : decode prog_6_method_4_code 24 = .ok (.invokestatic 20, 3) := by decide +kernel
theorem d7_27 : decode prog_6_method_4_code 27 = .ok (.goto 13, 3) := by decide +kernel
theorem d7_30 : decode prog_6_method_4_code 30 = .ok (.aload_n 0, 1) := by decide +kernel
theorem d7_31 : decode prog_6_method_4_code 31 = .ok (.getfield 17, 3) := by decide +kernel
theorem d7_34 : decode prog_6_method_4_code 34 = .ok (.lload_n 2, 1) := by decide +kernel
theorem d7_35 : decode prog_6_method_4_code 35 = .ok (.l2d, 1) := by decide +kernel
theorem d7_36 : decode prog_6_method_4_code 36 = .ok (.ddiv, 1) := by decide +kernel
theorem d7_37 : decode prog_6_method_4_code 37 = .ok (.invokestatic 26, 3) := by decide +kernel
theorem d7_40 : decode prog_6_method_4_code 40 = .ok (.areturn, 1) := by decide +kernel
theorem d8_0 : decode jdk_2648_method_2_code 0 = .ok (.getstatic 21, 3) := by decide +kernel
theorem d8_3 : decode jdk_2648_method_2_code 3 = .ok (.areturn, 1) := by decide +kernel
theorem d9_0 : decode jdk_2648_method_6_code 0 = .ok (.aload_n 0, 1) := by decide +kernel
theorem d9_1 : decode jdk_2648_method_6_code 1 = .ok (.getfield 7, 3) := by decide +kernel
theorem d9_4 : decode jdk_2648_method_6_code 4 = .ok (.ireturn, 1) := by decide +kernel
theorem d10_0 : decode prog_6_method_2_code 0 = .ok (.aload_n 0, 1) := by decide +kernel
theorem d10_1 : decode prog_6_method_2_code 1 = .ok (.dup, 1) := by decide +kernel
theorem d10_2 : decode prog_6_method_2_code 2 = .ok (.getfield 7, 3) := by decide +kernel
theorem d10_5 : decode prog_6_method_2_code 5 = .ok (.lconst 1, 1) := by decide +kernel
theorem d10_6 : decode prog_6_method_2_code 6 = .ok (.ladd, 1) := by decide +kernel
theorem d10_7 : decode prog_6_method_2_code 7 = .ok (.putfield 7, 3) := by decide +kernel
theorem d10_10 : decode prog_6_method_2_code 10 = .ok (.dload_n 1, 1) := by decide +kernel
theorem d10_11 : decode prog_6_method_2_code 11 = .ok (.aload_n 0, 1) := by decide +kernel
theorem d10_12 : decode prog_6_method_2_code 12 = .ok (.getfield 13, 3) := by decide +kernel
theorem d10_15 : decode prog_6_method_2_code 15 = .ok (.dsub, 1) := by decide +kernel
theorem d10_16 : decode prog_6_method_2_code 16 = .ok (.dstore_n 3, 1) := by decide +kernel
theorem d10_17 : decode prog_6_method_2_code 17 = .ok (.aload_n 0, 1) := by decide +kernel
theorem d10_18 : decode prog_6_method_2_code 18 = .ok (.dup, 1) := by decide +kernel
theorem d10_19 : decode prog_6_method_2_code 19 = .ok (.getfield 13, 3) := by decide +kernel
theorem d10_22 : decode prog_6_method_2_code 22 = .ok (.dload_n 3, 1) := by decide +kernel
theorem d10_23 : decode prog_6_method_2_code 23 = .ok (.aload_n 0, 1) := by decide +kernel
theorem d10_24 : decode prog_6_method_2_code 24 = .ok (.getfield 7, 3) := by decide +kernel
theorem d10_27 : decode prog_6_method_2_code 27 = .ok (.l2d, 1) := by decide +kernel
theorem d10_28 : decode prog_6_method_2_code 28 = .ok (.ddiv, 1) := by decide +kernel
theorem d10_29 : decode prog_6_method_2_code 29 = .ok (.dadd, 1) := by decide +kernel
theorem d10_30 : decode prog_6_method_2_code 30 = .ok (.putfield 13, 3) := by decide +kernel
theorem d10_33 : decode prog_6_method_2_code 33 = .ok (.aload_n 0, 1) := by decide +kernel
theorem d10_34 : decode prog_6_method_2_code 34 = .ok (.dup, 1) := by decide +kernel
theorem d10_35 : decode prog_6_method_2_code 35 = .ok (.getfield 17, 3) := by decide +kernel
theorem d10_38 : decode prog_6_method_2_code 38 = .ok (.dload_n 3, 1) := by decide +kernel
theorem d10_39 : decode prog_6_method_2_code 39 = .ok (.dload_n 1, 1) := by decide +kernel
theorem d10_40 : decode prog_6_method_2_code 40 = .ok (.aload_n 0, 1) := by decide +kernel
theorem d10_41 : decode prog_6_method_2_code 41 = .ok (.getfield 13, 3) := by decide +kernel
theorem d10_44 : decode prog_6_method_2_code 44 = .ok (.dsub, 1) := by decide +kernel
theorem d10_45 : decode prog_6_method_2_code 45 = .ok (.dmul, 1) := by decide +kernel
theorem d10_46 : decode prog_6_method_2_code 46 = .ok (.dadd, 1) := by decide +kernel
theorem d10_47 : decode prog_6_method_2_code 47 = .ok (.putfield 17, 3) := by decide +kernel
theorem d10_50 : decode prog_6_method_2_code 50 = .ok (.return_, 1) := by decide +kernel
theorem d11_0 : decode jdk_2648_method_4_code 0 = .ok (.new 8, 3) := by decide +kernel
theorem d11_3 : decode jdk_2648_method_4_code 3 = .ok (.dup, 1) := by decide +kernel
theorem d11_4 : decode jdk_2648_method_4_code 4 = .ok (.dload_n 0, 1) := by decide +kernel
theorem d11_5 : decode jdk_2648_method_4_code 5 = .ok (.invokespecial 25, 3) := by decide +kernel
theorem d11_8 : decode jdk_2648_method_4_code 8 = .ok (.areturn, 1) := by decide +kernel
theorem d12_0 : decode jdk_2648_method_3_code 0 = .ok (.aload_n 0, 1) := by decide +kernel
theorem d12_1 : decode jdk_2648_method_3_code 1 = .ok (.invokespecial 1, 3) := by decide +kernel
theorem d12_4 : decode jdk_2648_method_3_code 4 = .ok (.aload_n 0, 1) := by decide +kernel
theorem d12_5 : decode jdk_2648_method_3_code 5 = .ok (.iconst 1, 1) := by decide +kernel
theorem d12_6 : decode jdk_2648_method_3_code 6 = .ok (.putfield 7, 3) := by decide +kernel
theorem d12_9 : decode jdk_2648_method_3_code 9 = .ok (.aload_n 0, 1) := by decide +kernel
theorem d12_10 : decode jdk_2648_method_3_code 10 = .ok (.dload_n 1, 1) := by decide +kernel
theorem d12_11 : decode jdk_2648_method_3_code 11 = .ok (.putfield 17, 3) := by decide +kernel
theorem d12_14 : decode jdk_2648_method_3_code 14 = .ok (.return_, 1) := by decide +kernel
theorem d13_0 : decode jdk_2648_method_5_code 0 = .ok (.aload_n 0, 1) := by decide +kernel
theorem d13_1 : decode jdk_2648_method_5_code 1 = .ok (.getfield 7, 3) := by decide +kernel
theorem d13_4 : decode jdk_2648_method_5_code 4 = .ok (.ifCond .ne 13, 3) := by decide +kernel
theorem d13_17 : decode jdk_2648_method_5_code 17 = .ok (.aload_n 0, 1) := by decide +kernel
theorem d13_18 : decode jdk_2648_method_5_code 18 = .ok (.getfield 17, 3) := by decide +kernel
theorem d13_21 : decode jdk_2648_method_5_code 21 = .ok (.dreturn, 1) := by decide +kernel
theorem pd_0 : parseMethodDescriptor "(D)V" = some ⟨[.double], none⟩ := by decide +kernel
theorem pd_1 : parseMethodDescriptor "()Ljava/util/OptionalDouble;" = some ⟨[], some (.object "java/util/OptionalDouble")⟩ := by decide +kernel
theorem pd_2 : parseMethodDescriptor "(D)Ljava/util/OptionalDouble;" = some ⟨[.double], some (.object "java/util/OptionalDouble")⟩ := by decide +kernel
theorem pd_3 : parseMethodDescriptor "(I)I" = some ⟨[.int], some .int⟩ := by decide +kernel
theorem pd_4 : parseMethodDescriptor "()V" = some ⟨[], none⟩ := by decide +kernel
theorem pd_5 : parseMethodDescriptor "(Lorg/rowfold/aggregate/Moments;)Lorg/rowfold/aggregate/Moments;" = some ⟨[(.object "org/rowfold/aggregate/Moments")], some (.object "org/rowfold/aggregate/Moments")⟩ := by decide +kernel
theorem pd_6 : parseMethodDescriptor "(ZI)J" = some ⟨[.boolean, .int], some .long⟩ := by decide +kernel
theorem pd_7 : parseMethodDescriptor "(Z)Ljava/util/OptionalDouble;" = some ⟨[.boolean], some (.object "java/util/OptionalDouble")⟩ := by decide +kernel
theorem pd_8 : parseMethodDescriptor "()Z" = some ⟨[], some .boolean⟩ := by decide +kernel
theorem pd_9 : parseMethodDescriptor "()D" = some ⟨[], some .double⟩ := by decide +kernel
theorem pn_2 : plainName "org/rowfold/aggregate/Moments" = true := by first | (simp [plainName, overriddenIn]; done) | decide +kernel
theorem ef_2 (m : MethodId) (x0 : Addr) : entryFrame m #[(.ref x0)] 1 = mkF m 0 #[.val (.ref x0)] [] := by first | (simp [entryFrame, mkF, argsToLocals, Value.category]; done) | rfl
def QmI (Z : State) (a1 : Addr)  (h0 : Heap) (n0 : Nat) (v : Option Value) (h : Heap) (L : List Loc) : Prop := v = none ∧ Fr n0 L ∧ h = h0
set_option maxRecDepth 65536 in
set_option maxHeartbeats 40000000 in
theorem rmI (l : Launch) (Z : State) (a0 : Array Value) (hw : ∀ d ∈ tables_1, d.before a0 Z = true) (ws : List Jvm.Cond) (a1 : Addr)  (h0 : Heap) (n0 : Nat) (Z0 : n0 ≤ h0.size)  :
    MetFree l (⟨"org/rowfold/aggregate/Moments", "<init>", "()V"⟩ : MethodName) (head1 (Jvm.Cond.code (⟨"org/rowfold/aggregate/Moments", "<init>", "()V"⟩ : MethodName) prog_6_method_1_code 1 none :: ws) ({ frames := 1, cells := 0, slots := 0, locals := 12 } : Room)) (fun a U => a = #[(.ref a1)] ∧ Z.Warmed39 U.vm ∧ U.heap = h0) (fun _ _ _ _ _ => True) (fun _ U o U' => ∃ v L, o = .returned v ∧ QmI Z a1 h0 n0 v U'.heap L ∧ FrameEnd U o U' L ({ frames := 1, cells := 0, slots := 0, locals := 12 } : Room).cells ({ frames := 1, cells := 0, slots := 0, locals := 12 } : Room).slots) := by
  refine MetFree.of_bodySF (plainFor_of_name pn_2) hisR ?_
  intro p e s m args below meth c s₁ Bd hml0 hP hK
  obtain ⟨rfl, hZ, hh⟩ := hP
  have hx := Bd.exec
  have hby := Bd.bytes
  have hml : c.maxLocals = 1 := hml0
  have hown : s.vm.findClass "org/rowfold/aggregate/Moments" = some m.cls := findClass_of_methodNamed Bd.named
  have hnm := (name_of_methodNamed Bd.named Bd.method).1
  have X0 : Stand p l e ({ frames := 1, cells := 0, slots := 0, locals := 12 } : Room) s m #[(.ref a1)] below meth c s₁ [] 0 0 := Stand.of_body Bd
  have e0 : s₁.heap = h0 := by rw [← hh, Bd.state]; rfl
  have N0 := Fr.nil n0
  have pre0 : ∀ t, Steps p.tables e below (s₁.setTop (mkF m 0 #[.val (.ref a1)] [])) t → Steps p.tables e below (s₁.setTop (entryFrame m #[(.ref a1)] 1)) t := fun t_ k_ => castTop (ef_2 m a1) k_
  obtain ⟨S0, hS0⟩ : ∃ z, z = s₁.setTop (mkF m 0 #[.val (.ref a1)] []) := ⟨_, rfl⟩
  have r0 : Steps p.tables e below S0 (s₁.setTop (mkF m 0 #[.val (.ref a1)] [])) := by rw [hS0]; exact Steps.refl _
  have r1 : Steps p.tables e below S0 (s₁.setTop (mkF m 1 #[.val (.ref a1)] [(.ref a1)])) := by
    refine r0.trans ?_
    show Steps p.tables e below (s₁.setTop (mkF m 0 #[.val (.ref a1)] [])) _
    refine XS.aloadN X0.here hx rfl (hb hby d2_0) rfl rfl ?_
    exact Steps.refl _
  obtain ⟨T2, X2, e2, st2⟩ := initO X0 hx hZ hown (hw _ (List.mem_of_getElem? (i := 12) rfl)) (hw _ (List.mem_of_getElem? (i := 13) rfl)) (hw _ (List.mem_of_getElem? (i := 14) rfl)) e0 (g := (mkF m 1 #[.val (.ref a1)] [(.ref a1)])) rfl (by rw [hml]; rfl) rfl (hb hby d2_1) (by decide) (W := 0) (by show 2 * 0 + _ ≤ _; exact Nat.le_of_eq rfl) (by decide)
  have r3 : Steps p.tables e below S0 (T2.setTop (mkF m 4 #[.val (.ref a1)] [])) := r1.trans (st2 _ (Steps.refl _))
  obtain ⟨fs, hr, hrun, hended, hW, hsame⟩ := X2.leave (v := none) (fun _ => rfl)
  refine ⟨_, _, pre0 _ ?_, hrun, hended, _, _, rfl, ?_, ⟨_, rfl⟩, hW, hsame.mono (by decide) (by decide)⟩
  · rw [← hS0]
    refine r3.trans ?_
    show Steps p.tables e below (T2.setTop (mkF m 4 #[.val (.ref a1)] [])) _
    exact X2.returnOut hx Bd.returns (hb hby d2_4) hr
  · exact ⟨rfl, N0, e2⟩
theorem pn_10 : plainName "org/rowfold/aggregate/Moments" = true := by first | (simp [plainName, overriddenIn]; done) | decide +kernel
theorem ef_10 (m : MethodId) (x0 : Addr) (x1 : UInt64) : entryFrame m #[(.ref x0), (.double x1)] 5 = mkF m 0 #[.val (.ref x0), .val (.double x1), .second, .unset, .unset] [] := by first | (simp [entryFrame, mkF, argsToLocals, Value.category]; done) | rfl
def QmA (Z : State) (a1 : Addr) (u : UInt64) (cn : Int64) (me : UInt64) (sq : UInt64) (me2 : UInt64) (sq2 : UInt64) (h0 : Heap) (n0 : Nat) (v : Option Value) (h : Heap) (L : List Loc) : Prop := v = none ∧ Fr n0 L ∧ Keep h0 h [a1] ∧ Exa Z h a1 "org/rowfold/aggregate/Moments" ∧ Fld Z h a1 "org/rowfold/aggregate/Moments" "count" "J" (.long (cn + (1 : Int64))) ∧ Fld Z h a1 "org/rowfold/aggregate/Moments" "mean" "D" (.double me2) ∧ Fld Z h a1 "org/rowfold/aggregate/Moments" "squares" "D" (.double sq2)
set_option maxRecDepth 65536 in
set_option maxHeartbeats 40000000 in
theorem rmA (l : Launch) (Z : State) (a0 : Array Value) (hw : ∀ d ∈ tables_1, d.before a0 Z = true) (ws : List Jvm.Cond) (a1 : Addr) (u : UInt64) (cn : Int64) (me : UInt64) (sq : UInt64) (me2 : UInt64) (sq2 : UInt64) (h0 : Heap) (n0 : Nat) (Z0 : n0 ≤ h0.size) (Fc : Fld Z h0 a1 "org/rowfold/aggregate/Moments" "count" "J" (.long cn)) (Fm : Fld Z h0 a1 "org/rowfold/aggregate/Moments" "mean" "D" (.double me)) (Fs : Fld Z h0 a1 "org/rowfold/aggregate/Moments" "squares" "D" (.double sq)) (Ea : Exa Z h0 a1 "org/rowfold/aggregate/Moments") (g_a1 : n0 ≤ a1) (hA : AddS u me sq (cn + (1 : Int64)) me2 sq2) :
    MetFree l (⟨"org/rowfold/aggregate/Moments", "add", "(D)V"⟩ : MethodName) (head1 (Jvm.Cond.code (⟨"org/rowfold/aggregate/Moments", "add", "(D)V"⟩ : MethodName) prog_6_method_2_code 5 none :: ws) ({ frames := 0, cells := 0, slots := 0, locals := 0 } : Room)) (fun a U => a = #[(.ref a1), (.double u)] ∧ Z.Warmed39 U.vm ∧ U.heap = h0) (fun _ _ _ _ _ => True) (fun _ U o U' => ∃ v L, o = .returned v ∧ QmA Z a1 u cn me sq me2 sq2 h0 n0 v U'.heap L ∧ FrameEnd U o U' L ({ frames := 0, cells := 0, slots := 0, locals := 0 } : Room).cells ({ frames := 0, cells := 0, slots := 0, locals := 0 } : Room).slots) := by
  refine MetFree.of_bodySF (plainFor_of_name pn_10) hisR ?_
  intro p e s m args below meth c s₁ Bd hml0 hP hK
  obtain ⟨rfl, hZ, hh⟩ := hP
  have hx := Bd.exec
  have hby := Bd.bytes
  have hml : c.maxLocals = 5 := hml0
  have hown : s.vm.findClass "org/rowfold/aggregate/Moments" = some m.cls := findClass_of_methodNamed Bd.named
  have hnm := (name_of_methodNamed Bd.named Bd.method).1
  have X0 : Stand p l e ({ frames := 0, cells := 0, slots := 0, locals := 0 } : Room) s m #[(.ref a1), (.double u)] below meth c s₁ [] 0 0 := Stand.of_body Bd
  have e0 : s₁.heap = h0 := by rw [← hh, Bd.state]; rfl
  have N0 := Fr.nil n0
  have pre0 : ∀ t, Steps p.tables e below (s₁.setTop (mkF m 0 #[.val (.ref a1), .val (.double u), .second, .unset, .unset] [])) t → Steps p.tables e below (s₁.setTop (entryFrame m #[(.ref a1), (.double u)] 5)) t := fun t_ k_ => castTop (ef_10 m a1 u) k_
  obtain ⟨S0, hS0⟩ : ∃ z, z = s₁.setTop (mkF m 0 #[.val (.ref a1), .val (.double u), .second, .unset, .unset] []) := ⟨_, rfl⟩
  have r0 : Steps p.tables e below S0 (s₁.setTop (mkF m 0 #[.val (.ref a1), .val (.double u), .second, .unset, .unset] [])) := by rw [hS0]; exact Steps.refl _
  obtain ⟨d1, d2, d4, d5, fe1, fn1, fe2, fn2, fe3, fn3, fe4, fn4, fe5, fn5, fe6, fn6⟩ := hA
  have K0 := Keep.refl h0 [a1]
  have r4 : Steps p.tables e below S0 (s₁.setTop (mkF m 2 #[.val (.ref a1), .val (.double u), .second, .unset, .unset] [(.ref a1), (.ref a1)])) := by
    refine r0.trans ?_
    show Steps p.tables e below (s₁.setTop (mkF m 0 #[.val (.ref a1), .val (.double u), .second, .unset, .unset] [])) _
    refine XS.aloadN X0.here hx rfl (hb hby d10_0) rfl rfl ?_
    refine XS.dup X0.here hx rfl (hb hby d10_1) rfl rfl ?_
    exact Steps.refl _
  obtain ⟨T5, X5, e5, st5⟩ := getF X0 hx hZ hown (host := "") (Or.inl (hw _ (List.mem_of_getElem? (i := 20) rfl))) Via.refl e0 Fc (g := (mkF m 2 #[.val (.ref a1), .val (.double u), .second, .unset, .unset] [(.ref a1), (.ref a1)])) rfl rfl (hb hby d10_2)
  have r6 : Steps p.tables e below S0 (T5.setTop (mkF m 5 #[.val (.ref a1), .val (.double u), .second, .unset, .unset] [(.long cn), (.ref a1)])) := r4.trans (st5 _ (Steps.refl _))
  have r7 : Steps p.tables e below S0 (T5.setTop (mkF m 7 #[.val (.ref a1), .val (.double u), .second, .unset, .unset] [(.long (cn + (1 : Int64))), (.ref a1)])) := by
    refine r6.trans ?_
    show Steps p.tables e below (T5.setTop (mkF m 5 #[.val (.ref a1), .val (.double u), .second, .unset, .unset] [(.long cn), (.ref a1)])) _
    refine XS.lconst X5.here hx rfl (hb hby d10_5) ?_
    refine XS.ladd X5.here hx rfl (hb hby d10_6) rfl ?_
    exact Steps.refl _
  obtain ⟨T8, h8, X8, e8, W8, st8⟩ := putF X5 hx hZ hown (host := "") (Or.inl (hw _ (List.mem_of_getElem? (i := 20) rfl))) Via.refl e5 Fc Ea (Or.inl (hw _ (List.mem_of_getElem? (i := 21) rfl))) (hw _ (List.mem_of_getElem? (i := 7) rfl)) (ty := .long) (by decide) rfl rfl (g := (mkF m 7 #[.val (.ref a1), .val (.double u), .second, .unset, .unset] [(.long (cn + (1 : Int64))), (.ref a1)])) rfl rfl (hb hby d10_7)
  have N8 := Fr.snoc X8 N0 g_a1
  have F8_a1_count := Fc.same W8
  have F8_a1_mean := Fm.other W8 (Or.inr (slot_ne (a0 := a0) (Or.inl (hw _ (List.mem_of_getElem? (i := 51) rfl))) (Or.inl (hw _ (List.mem_of_getElem? (i := 21) rfl))) (by decide) (t := .double) (t' := .long) (by decide) (by decide)))
  have F8_a1_squares := Fs.other W8 (Or.inr (slot_ne (a0 := a0) (Or.inl (hw _ (List.mem_of_getElem? (i := 53) rfl))) (Or.inl (hw _ (List.mem_of_getElem? (i := 21) rfl))) (by decide) (t := .double) (t' := .long) (by decide) (by decide)))
  have E8_a1 := Ea.wr W8
  have Z8 : n0 ≤ h8.size := Nat.le_trans Z0 (Nat.le_of_eq W8.size.symm)
  have K8 := K0.wr W8 (Or.inl (List.mem_of_getElem? (i := 0) rfl))
  have r9 : Steps p.tables e below S0 (T8.setTop (mkF m 10 #[.val (.ref a1), .val (.double u), .second, .unset, .unset] [])) := r7.trans (st8 _ (Steps.refl _))
  have r10 : Steps p.tables e below S0 (T8.setTop (mkF m 12 #[.val (.ref a1), .val (.double u), .second, .unset, .unset] [(.ref a1), (.double u)])) := by
    refine r9.trans ?_
    show Steps p.tables e below (T8.setTop (mkF m 10 #[.val (.ref a1), .val (.double u), .second, .unset, .unset] [])) _
    refine XS.dloadN X8.here hx rfl (hb hby d10_10) rfl ?_
    refine XS.aloadN X8.here hx rfl (hb hby d10_11) rfl rfl ?_
    exact Steps.refl _
  obtain ⟨T11, X11, e11, st11⟩ := getF X8 hx hZ hown (host := "") (Or.inl (hw _ (List.mem_of_getElem? (i := 50) rfl))) Via.refl e8 F8_a1_mean (g := (mkF m 12 #[.val (.ref a1), .val (.double u), .second, .unset, .unset] [(.ref a1), (.double u)])) rfl rfl (hb hby d10_12)
  have r12 : Steps p.tables e below S0 (T11.setTop (mkF m 15 #[.val (.ref a1), .val (.double u), .second, .unset, .unset] [(.double me), (.double u)])) := r10.trans (st11 _ (Steps.refl _))
  have r13 : Steps p.tables e below S0 (T11.setTop (mkF m 19 #[.val (.ref a1), .val (.double u), .second, .val (.double d1), .second] [(.ref a1), (.ref a1)])) := by
    refine r12.trans ?_
    show Steps p.tables e below (T11.setTop (mkF m 15 #[.val (.ref a1), .val (.double u), .second, .unset, .unset] [(.double me), (.double u)])) _
    refine XS.dsubS X11.here hx rfl (hb hby d10_15) rfl (by rw [fe1]; exact fn1) fe1 ?_
    refine XS.dstoreN X11.here hx rfl (hb hby d10_16) rfl (l' := #[.val (.ref a1), .val (.double u), .second, .val (.double d1), .second]) rfl ?_
    refine XS.aloadN X11.here hx rfl (hb hby d10_17) rfl rfl ?_
    show Steps p.tables e below (T11.setTop (mkF m 18 #[.val (.ref a1), .val (.double u), .second, .val (.double d1), .second] [(.ref a1)])) _
    refine XS.dup X11.here hx rfl (hb hby d10_18) rfl rfl ?_
    exact Steps.refl _
  obtain ⟨T14, X14, e14, st14⟩ := getF X11 hx hZ hown (host := "") (Or.inl (hw _ (List.mem_of_getElem? (i := 50) rfl))) Via.refl e11 F8_a1_mean (g := (mkF m 19 #[.val (.ref a1), .val (.double u), .second, .val (.double d1), .second] [(.ref a1), (.ref a1)])) rfl rfl (hb hby d10_19)
  have r15 : Steps p.tables e below S0 (T14.setTop (mkF m 22 #[.val (.ref a1), .val (.double u), .second, .val (.double d1), .second] [(.double me), (.ref a1)])) := r13.trans (st14 _ (Steps.refl _))
  have r16 : Steps p.tables e below S0 (T14.setTop (mkF m 24 #[.val (.ref a1), .val (.double u), .second, .val (.double d1), .second] [(.ref a1), (.double d1), (.double me), (.ref a1)])) := by
    refine r15.trans ?_
    show Steps p.tables e below (T14.setTop (mkF m 22 #[.val (.ref a1), .val (.double u), .second, .val (.double d1), .second] [(.double me), (.ref a1)])) _
    refine XS.dloadN X14.here hx rfl (hb hby d10_22) rfl ?_
    refine XS.aloadN X14.here hx rfl (hb hby d10_23) rfl rfl ?_
    exact Steps.refl _
  obtain ⟨T17, X17, e17, st17⟩ := getF X14 hx hZ hown (host := "") (Or.inl (hw _ (List.mem_of_getElem? (i := 20) rfl))) Via.refl e14 F8_a1_count (g := (mkF m 24 #[.val (.ref a1), .val (.double u), .second, .val (.double d1), .second] [(.ref a1), (.double d1), (.double me), (.ref a1)])) rfl rfl (hb hby d10_24)
  have r18 : Steps p.tables e below S0 (T17.setTop (mkF m 27 #[.val (.ref a1), .val (.double u), .second, .val (.double d1), .second] [(.long (cn + (1 : Int64))), (.double d1), (.double me), (.ref a1)])) := r16.trans (st17 _ (Steps.refl _))
  have r19 : Steps p.tables e below S0 (T17.setTop (mkF m 30 #[.val (.ref a1), .val (.double u), .second, .val (.double d1), .second] [(.double me2), (.ref a1)])) := by
    refine r18.trans ?_
    show Steps p.tables e below (T17.setTop (mkF m 27 #[.val (.ref a1), .val (.double u), .second, .val (.double d1), .second] [(.long (cn + (1 : Int64))), (.double d1), (.double me), (.ref a1)])) _
    refine XS.l2dS X17.here hx rfl (hb hby d10_27) rfl rfl ?_
    refine XS.ddivS X17.here hx rfl (hb hby d10_28) rfl (by rw [fe2]; exact fn2) fe2 ?_
    refine XS.daddS X17.here hx rfl (hb hby d10_29) rfl (by rw [fe3]; exact fn3) fe3 ?_
    exact Steps.refl _
  obtain ⟨T20, h20, X20, e20, W20, st20⟩ := putF X17 hx hZ hown (host := "") (Or.inl (hw _ (List.mem_of_getElem? (i := 50) rfl))) Via.refl e17 F8_a1_mean E8_a1 (Or.inl (hw _ (List.mem_of_getElem? (i := 51) rfl))) (hw _ (List.mem_of_getElem? (i := 7) rfl)) (ty := .double) (by decide) rfl rfl (g := (mkF m 30 #[.val (.ref a1), .val (.double u), .second, .val (.double d1), .second] [(.double me2), (.ref a1)])) rfl rfl (hb hby d10_30)
  have N20 := Fr.snoc X20 N8 g_a1
  have F20_a1_count := F8_a1_count.other W20 (Or.inr (slot_ne (a0 := a0) (Or.inl (hw _ (List.mem_of_getElem? (i := 21) rfl))) (Or.inl (hw _ (List.mem_of_getElem? (i := 51) rfl))) (by decide) (t := .long) (t' := .double) (by decide) (by decide)))
  have F20_a1_mean := F8_a1_mean.same W20
  have F20_a1_squares := F8_a1_squares.other W20 (Or.inr (slot_ne (a0 := a0) (Or.inl (hw _ (List.mem_of_getElem? (i := 53) rfl))) (Or.inl (hw _ (List.mem_of_getElem? (i := 51) rfl))) (by decide) (t := .double) (t' := .double) (by decide) (by decide)))
  have E20_a1 := E8_a1.wr W20
  have Z20 : n0 ≤ h20.size := Nat.le_trans Z8 (Nat.le_of_eq W20.size.symm)
  have K20 := K8.wr W20 (Or.inl (List.mem_of_getElem? (i := 0) rfl))
  have r21 : Steps p.tables e below S0 (T20.setTop (mkF m 33 #[.val (.ref a1), .val (.double u), .second, .val (.double d1), .second] [])) := r19.trans (st20 _ (Steps.refl _))
  have r22 : Steps p.tables e below S0 (T20.setTop (mkF m 35 #[.val (.ref a1), .val (.double u), .second, .val (.double d1), .second] [(.ref a1), (.ref a1)])) := by
    refine r21.trans ?_
    show Steps p.tables e below (T20.setTop (mkF m 33 #[.val (.ref a1), .val (.double u), .second, .val (.double d1), .second] [])) _
    refine XS.aloadN X20.here hx rfl (hb hby d10_33) rfl rfl ?_
    refine XS.dup X20.here hx rfl (hb hby d10_34) rfl rfl ?_
    exact Steps.refl _
  obtain ⟨T23, X23, e23, st23⟩ := getF X20 hx hZ hown (host := "") (Or.inl (hw _ (List.mem_of_getElem? (i := 52) rfl))) Via.refl e20 F20_a1_squares (g := (mkF m 35 #[.val (.ref a1), .val (.double u), .second, .val (.double d1), .second] [(.ref a1), (.ref a1)])) rfl rfl (hb hby d10_35)
  have r24 : Steps p.tables e below S0 (T23.setTop (mkF m 38 #[.val (.ref a1), .val (.double u), .second, .val (.double d1), .second] [(.double sq), (.ref a1)])) := r22.trans (st23 _ (Steps.refl _))
  have r25 : Steps p.tables e below S0 (T23.setTop (mkF m 41 #[.val (.ref a1), .val (.double u), .second, .val (.double d1), .second] [(.ref a1), (.double u), (.double d1), (.double sq), (.ref a1)])) := by
    refine r24.trans ?_
    show Steps p.tables e below (T23.setTop (mkF m 38 #[.val (.ref a1), .val (.double u), .second, .val (.double d1), .second] [(.double sq), (.ref a1)])) _
    refine XS.dloadN X23.here hx rfl (hb hby d10_38) rfl ?_
    refine XS.dloadN X23.here hx rfl (hb hby d10_39) rfl ?_
    refine XS.aloadN X23.here hx rfl (hb hby d10_40) rfl rfl ?_
    exact Steps.refl _
  obtain ⟨T26, X26, e26, st26⟩ := getF X23 hx hZ hown (host := "") (Or.inl (hw _ (List.mem_of_getElem? (i := 50) rfl))) Via.refl e23 F20_a1_mean (g := (mkF m 41 #[.val (.ref a1), .val (.double u), .second, .val (.double d1), .second] [(.ref a1), (.double u), (.double d1), (.double sq), (.ref a1)])) rfl rfl (hb hby d10_41)
  have r27 : Steps p.tables e below S0 (T26.setTop (mkF m 44 #[.val (.ref a1), .val (.double u), .second, .val (.double d1), .second] [(.double me2), (.double u), (.double d1), (.double sq), (.ref a1)])) := r25.trans (st26 _ (Steps.refl _))
  have r28 : Steps p.tables e below S0 (T26.setTop (mkF m 47 #[.val (.ref a1), .val (.double u), .second, .val (.double d1), .second] [(.double sq2), (.ref a1)])) := by
    refine r27.trans ?_
    show Steps p.tables e below (T26.setTop (mkF m 44 #[.val (.ref a1), .val (.double u), .second, .val (.double d1), .second] [(.double me2), (.double u), (.double d1), (.double sq), (.ref a1)])) _
    refine XS.dsubS X26.here hx rfl (hb hby d10_44) rfl (by rw [fe4]; exact fn4) fe4 ?_
    refine XS.dmulS X26.here hx rfl (hb hby d10_45) rfl (by rw [fe5]; exact fn5) fe5 ?_
    refine XS.daddS X26.here hx rfl (hb hby d10_46) rfl (by rw [fe6]; exact fn6) fe6 ?_
    exact Steps.refl _
  obtain ⟨T29, h29, X29, e29, W29, st29⟩ := putF X26 hx hZ hown (host := "") (Or.inl (hw _ (List.mem_of_getElem? (i := 52) rfl))) Via.refl e26 F20_a1_squares E20_a1 (Or.inl (hw _ (List.mem_of_getElem? (i := 53) rfl))) (hw _ (List.mem_of_getElem? (i := 7) rfl)) (ty := .double) (by decide) rfl rfl (g := (mkF m 47 #[.val (.ref a1), .val (.double u), .second, .val (.double d1), .second] [(.double sq2), (.ref a1)])) rfl rfl (hb hby d10_47)
  have N29 := Fr.snoc X29 N20 g_a1
  have F29_a1_count := F20_a1_count.other W29 (Or.inr (slot_ne (a0 := a0) (Or.inl (hw _ (List.mem_of_getElem? (i := 21) rfl))) (Or.inl (hw _ (List.mem_of_getElem? (i := 53) rfl))) (by decide) (t := .long) (t' := .double) (by decide) (by decide)))
  have F29_a1_mean := F20_a1_mean.other W29 (Or.inr (slot_ne (a0 := a0) (Or.inl (hw _ (List.mem_of_getElem? (i := 51) rfl))) (Or.inl (hw _ (List.mem_of_getElem? (i := 53) rfl))) (by decide) (t := .double) (t' := .double) (by decide) (by decide)))
  have F29_a1_squares := F20_a1_squares.same W29
  have E29_a1 := E20_a1.wr W29
  have Z29 : n0 ≤ h29.size := Nat.le_trans Z20 (Nat.le_of_eq W29.size.symm)
  have K29 := K20.wr W29 (Or.inl (List.mem_of_getElem? (i := 0) rfl))
  have r30 : Steps p.tables e below S0 (T29.setTop (mkF m 50 #[.val (.ref a1), .val (.double u), .second, .val (.double d1), .second] [])) := r28.trans (st29 _ (Steps.refl _))
  obtain ⟨fs, hr, hrun, hended, hW, hsame⟩ := X29.leave (v := none) (fun _ => rfl)
  refine ⟨_, _, pre0 _ ?_, hrun, hended, _, _, rfl, ?_, ⟨_, rfl⟩, hW, hsame.mono (by decide) (by decide)⟩
  · rw [← hS0]
    refine r30.trans ?_
    show Steps p.tables e below (T29.setTop (mkF m 50 #[.val (.ref a1), .val (.double u), .second, .val (.double d1), .second] [])) _
    exact X29.returnOut hx Bd.returns (hb hby d10_50) hr
  · show QmA Z a1 u cn me sq me2 sq2 h0 n0 _ T29.heap _; rw [e29]; exact ⟨rfl, N29, K29, E29_a1, F29_a1_count, F29_a1_mean, F29_a1_squares⟩
theorem pn_12 : plainName "java/util/OptionalDouble" = true := by first | (simp [plainName, overriddenIn]; done) | decide +kernel
theorem ef_12 (m : MethodId) (x0 : Addr) (x1 : UInt64) : entryFrame m #[(.ref x0), (.double x1)] 3 = mkF m 0 #[.val (.ref x0), .val (.double x1), .second] [] := by first | (simp [entryFrame, mkF, argsToLocals, Value.category]; done) | rfl
def QmO (Z : State) (a1 : Addr) (u : UInt64)  (h0 : Heap) (n0 : Nat) (v : Option Value) (h : Heap) (L : List Loc) : Prop := v = none ∧ Fr n0 L ∧ Keep h0 h [a1] ∧ Exa Z h a1 "java/util/OptionalDouble" ∧ Fld Z h a1 "java/util/OptionalDouble" "isPresent" "Z" (.int (1 : Int32)) ∧ Fld Z h a1 "java/util/OptionalDouble" "value" "D" (.double u)
set_option maxRecDepth 65536 in
set_option maxHeartbeats 40000000 in
theorem rmO (l : Launch) (Z : State) (a0 : Array Value) (hw : ∀ d ∈ tables_1, d.before a0 Z = true) (ws : List Jvm.Cond) (a1 : Addr) (u : UInt64)  (h0 : Heap) (n0 : Nat) (Z0 : n0 ≤ h0.size) (Fp : Fld Z h0 a1 "java/util/OptionalDouble" "isPresent" "Z" (.int (0 : Int32))) (Fv : Fld Z h0 a1 "java/util/OptionalDouble" "value" "D" (.double (0 : UInt64))) (Ea : Exa Z h0 a1 "java/util/OptionalDouble") (g_a1 : n0 ≤ a1) :
    MetFree l (⟨"java/util/OptionalDouble", "<init>", "(D)V"⟩ : MethodName) (head1 (Jvm.Cond.code (⟨"java/util/OptionalDouble", "<init>", "(D)V"⟩ : MethodName) jdk_2648_method_3_code 3 none :: ws) ({ frames := 1, cells := 0, slots := 0, locals := 12 } : Room)) (fun a U => a = #[(.ref a1), (.double u)] ∧ Z.Warmed39 U.vm ∧ U.heap = h0) (fun _ _ _ _ _ => True) (fun _ U o U' => ∃ v L, o = .returned v ∧ QmO Z a1 u h0 n0 v U'.heap L ∧ FrameEnd U o U' L ({ frames := 1, cells := 0, slots := 0, locals := 12 } : Room).cells ({ frames := 1, cells := 0, slots := 0, locals := 12 } : Room).slots) := by
  refine MetFree.of_bodySF (plainFor_of_name pn_12) hisR ?_
  intro p e s m args below meth c s₁ Bd hml0 hP hK
  obtain ⟨rfl, hZ, hh⟩ := hP
  have hx := Bd.exec
  have hby := Bd.bytes
  have hml : c.maxLocals = 3 := hml0
  have hown : s.vm.findClass "java/util/OptionalDouble" = some m.cls := findClass_of_methodNamed Bd.named
  have hnm := (name_of_methodNamed Bd.named Bd.method).1
  have X0 : Stand p l e ({ frames := 1, cells := 0, slots := 0, locals := 12 } : Room) s m #[(.ref a1), (.double u)] below meth c s₁ [] 0 0 := Stand.of_body Bd
  have e0 : s₁.heap = h0 := by rw [← hh, Bd.state]; rfl
  have N0 := Fr.nil n0
  have pre0 : ∀ t, Steps p.tables e below (s₁.setTop (mkF m 0 #[.val (.ref a1), .val (.double u), .second] [])) t → Steps p.tables e below (s₁.setTop (entryFrame m #[(.ref a1), (.double u)] 3)) t := fun t_ k_ => castTop (ef_12 m a1 u) k_
  obtain ⟨S0, hS0⟩ : ∃ z, z = s₁.setTop (mkF m 0 #[.val (.ref a1), .val (.double u), .second] []) := ⟨_, rfl⟩
  have r0 : Steps p.tables e below S0 (s₁.setTop (mkF m 0 #[.val (.ref a1), .val (.double u), .second] [])) := by rw [hS0]; exact Steps.refl _
  have K0 := Keep.refl h0 [a1]
  have r31 : Steps p.tables e below S0 (s₁.setTop (mkF m 1 #[.val (.ref a1), .val (.double u), .second] [(.ref a1)])) := by
    refine r0.trans ?_
    show Steps p.tables e below (s₁.setTop (mkF m 0 #[.val (.ref a1), .val (.double u), .second] [])) _
    refine XS.aloadN X0.here hx rfl (hb hby d12_0) rfl rfl ?_
    exact Steps.refl _
  obtain ⟨T32, X32, e32, st32⟩ := initO X0 hx hZ hown (hw _ (List.mem_of_getElem? (i := 63) rfl)) (hw _ (List.mem_of_getElem? (i := 13) rfl)) (hw _ (List.mem_of_getElem? (i := 14) rfl)) e0 (g := (mkF m 1 #[.val (.ref a1), .val (.double u), .second] [(.ref a1)])) rfl (by rw [hml]; rfl) rfl (hb hby d12_1) (by decide) (W := 0) (by show 2 * 0 + _ ≤ _; exact Nat.le_of_eq rfl) (by decide)
  have r33 : Steps p.tables e below S0 (T32.setTop (mkF m 4 #[.val (.ref a1), .val (.double u), .second] [])) := r31.trans (st32 _ (Steps.refl _))
  have r34 : Steps p.tables e below S0 (T32.setTop (mkF m 6 #[.val (.ref a1), .val (.double u), .second] [(.int (1 : Int32)), (.ref a1)])) := by
    refine r33.trans ?_
    show Steps p.tables e below (T32.setTop (mkF m 4 #[.val (.ref a1), .val (.double u), .second] [])) _
    refine XS.aloadN X32.here hx rfl (hb hby d12_4) rfl rfl ?_
    refine XS.iconst X32.here hx rfl (hb hby d12_5) ?_
    exact Steps.refl _
  obtain ⟨T35, h35, X35, e35, W35, st35⟩ := putF X32 hx hZ hown (host := "") (Or.inl (hw _ (List.mem_of_getElem? (i := 43) rfl))) Via.refl e32 Fp Ea (Or.inr ⟨(hw _ (List.mem_of_getElem? (i := 44) rfl)), rfl, hnm⟩) (hw _ (List.mem_of_getElem? (i := 58) rfl)) (ty := .boolean) (by decide) rfl rfl (g := (mkF m 6 #[.val (.ref a1), .val (.double u), .second] [(.int (1 : Int32)), (.ref a1)])) rfl rfl (hb hby d12_6)
  have N35 := Fr.snoc X35 N0 g_a1
  have F35_a1_isPresent := Fp.same W35
  have F35_a1_value := Fv.other W35 (Or.inr (slot_ne (a0 := a0) (Or.inr (hw _ (List.mem_of_getElem? (i := 65) rfl))) (Or.inr (hw _ (List.mem_of_getElem? (i := 44) rfl))) (by decide) (t := .double) (t' := .boolean) (by decide) (by decide)))
  have E35_a1 := Ea.wr W35
  have Z35 : n0 ≤ h35.size := Nat.le_trans Z0 (Nat.le_of_eq W35.size.symm)
  have K35 := K0.wr W35 (Or.inl (List.mem_of_getElem? (i := 0) rfl))
  have r36 : Steps p.tables e below S0 (T35.setTop (mkF m 9 #[.val (.ref a1), .val (.double u), .second] [])) := r34.trans (st35 _ (Steps.refl _))
  have r37 : Steps p.tables e below S0 (T35.setTop (mkF m 11 #[.val (.ref a1), .val (.double u), .second] [(.double u), (.ref a1)])) := by
    refine r36.trans ?_
    show Steps p.tables e below (T35.setTop (mkF m 9 #[.val (.ref a1), .val (.double u), .second] [])) _
    refine XS.aloadN X35.here hx rfl (hb hby d12_9) rfl rfl ?_
    refine XS.dloadN X35.here hx rfl (hb hby d12_10) rfl ?_
    exact Steps.refl _
  obtain ⟨T38, h38, X38, e38, W38, st38⟩ := putF X35 hx hZ hown (host := "") (Or.inl (hw _ (List.mem_of_getElem? (i := 64) rfl))) Via.refl e35 F35_a1_value E35_a1 (Or.inr ⟨(hw _ (List.mem_of_getElem? (i := 65) rfl)), rfl, hnm⟩) (hw _ (List.mem_of_getElem? (i := 58) rfl)) (ty := .double) (by decide) rfl rfl (g := (mkF m 11 #[.val (.ref a1), .val (.double u), .second] [(.double u), (.ref a1)])) rfl rfl (hb hby d12_11)
  have N38 := Fr.snoc X38 N35 g_a1
  have F38_a1_isPresent := F35_a1_isPresent.other W38 (Or.inr (slot_ne (a0 := a0) (Or.inr (hw _ (List.mem_of_getElem? (i := 44) rfl))) (Or.inr (hw _ (List.mem_of_getElem? (i := 65) rfl))) (by decide) (t := .boolean) (t' := .double) (by decide) (by decide)))
  have F38_a1_value := F35_a1_value.same W38
  have E38_a1 := E35_a1.wr W38
  have Z38 : n0 ≤ h38.size := Nat.le_trans Z35 (Nat.le_of_eq W38.size.symm)
  have K38 := K35.wr W38 (Or.inl (List.mem_of_getElem? (i := 0) rfl))
  have r39 : Steps p.tables e below S0 (T38.setTop (mkF m 14 #[.val (.ref a1), .val (.double u), .second] [])) := r37.trans (st38 _ (Steps.refl _))
  obtain ⟨fs, hr, hrun, hended, hW, hsame⟩ := X38.leave (v := none) (fun _ => rfl)
  refine ⟨_, _, pre0 _ ?_, hrun, hended, _, _, rfl, ?_, ⟨_, rfl⟩, hW, hsame.mono (by decide) (by decide)⟩
  · rw [← hS0]
    refine r39.trans ?_
    show Steps p.tables e below (T38.setTop (mkF m 14 #[.val (.ref a1), .val (.double u), .second] [])) _
    exact X38.returnOut hx Bd.returns (hb hby d12_14) hr
  · show QmO Z a1 u h0 n0 _ T38.heap _; rw [e38]; exact ⟨rfl, N38, K38, E38_a1, F38_a1_isPresent, F38_a1_value⟩
theorem pn_11 : plainName "java/util/OptionalDouble" = true := by first | (simp [plainName, overriddenIn]; done) | decide +kernel
theorem ef_11 (m : MethodId) (x0 : UInt64) : entryFrame m #[(.double x0)] 2 = mkF m 0 #[.val (.double x0), .second] [] := by first | (simp [entryFrame, mkF, argsToLocals, Value.category]; done) | rfl
def QmF (Z : State) (u : UInt64)  (h0 : Heap) (n0 : Nat) (v : Option Value) (h : Heap) (L : List Loc) : Prop := ∃ b : Addr, v = some (.ref b) ∧ h0.size ≤ b ∧ Exa Z h b "java/util/OptionalDouble" ∧ Fld Z h b "java/util/OptionalDouble" "isPresent" "Z" (.int (1 : Int32)) ∧ Fld Z h b "java/util/OptionalDouble" "value" "D" (.double u) ∧ Keep h0 h [] ∧ Fr n0 L
set_option maxRecDepth 65536 in
set_option maxHeartbeats 40000000 in
theorem rmF (l : Launch) (Z : State) (a0 : Array Value) (hw : ∀ d ∈ tables_1, d.before a0 Z = true) (ws : List Jvm.Cond) (u : UInt64)  (h0 : Heap) (n0 : Nat) (Z0 : n0 ≤ h0.size)  :
    MetFree l (⟨"java/util/OptionalDouble", "of", "(D)Ljava/util/OptionalDouble;"⟩ : MethodName) (head1 (Jvm.Cond.code (⟨"java/util/OptionalDouble", "of", "(D)Ljava/util/OptionalDouble;"⟩ : MethodName) jdk_2648_method_4_code 2 (some (.object "java/util/OptionalDouble")) :: ws) ({ frames := 2, cells := 1, slots := 2, locals := 27 } : Room)) (fun a U => a = #[(.double u)] ∧ Z.Warmed39 U.vm ∧ U.heap = h0) (fun _ _ _ _ _ => True) (fun _ U o U' => ∃ v L, o = .returned v ∧ QmF Z u h0 n0 v U'.heap L ∧ FrameEnd U o U' L ({ frames := 2, cells := 1, slots := 2, locals := 27 } : Room).cells ({ frames := 2, cells := 1, slots := 2, locals := 27 } : Room).slots) := by
  refine MetFree.of_bodySF (plainFor_of_name pn_11) hisR ?_
  intro p e s m args below meth c s₁ Bd hml0 hP hK
  obtain ⟨rfl, hZ, hh⟩ := hP
  have hx := Bd.exec
  have hby := Bd.bytes
  have hml : c.maxLocals = 2 := hml0
  have hown : s.vm.findClass "java/util/OptionalDouble" = some m.cls := findClass_of_methodNamed Bd.named
  have hnm := (name_of_methodNamed Bd.named Bd.method).1
  have X0 : Stand p l e ({ frames := 2, cells := 1, slots := 2, locals := 27 } : Room) s m #[(.double u)] below meth c s₁ [] 0 0 := Stand.of_body Bd
  have e0 : s₁.heap = h0 := by rw [← hh, Bd.state]; rfl
  have N0 := Fr.nil n0
  have pre0 : ∀ t, Steps p.tables e below (s₁.setTop (mkF m 0 #[.val (.double u), .second] [])) t → Steps p.tables e below (s₁.setTop (entryFrame m #[(.double u)] 2)) t := fun t_ k_ => castTop (ef_11 m u) k_
  obtain ⟨S0, hS0⟩ : ∃ z, z = s₁.setTop (mkF m 0 #[.val (.double u), .second] []) := ⟨_, rfl⟩
  have r0 : Steps p.tables e below S0 (s₁.setTop (mkF m 0 #[.val (.double u), .second] [])) := by rw [hS0]; exact Steps.refl _
  have K0 := Keep.refl h0 []
  obtain ⟨T40, h40, X40, e40, E40, A40, D40, -, st40⟩ := newO X0 hx hZ hown (hw _ (List.mem_of_getElem? (i := 57) rfl)) (hw _ (List.mem_of_getElem? (i := 58) rfl)) (hw _ (List.mem_of_getElem? (i := 35) rfl)) e0 (g := (mkF m 0 #[.val (.double u), .second] [])) rfl (hb hby d11_0) (by decide) (by decide)
  obtain ⟨b1, g40⟩ : ∃ z, z = h0.size := ⟨_, rfl⟩
  rw [← g40] at A40 D40 st40
  have g_b1 : n0 ≤ b1 := Nat.le_trans Z0 (Nat.le_of_eq g40.symm)
  have sz_b1 : h0.size ≤ b1 := Nat.le_trans K0.1 (Nat.le_of_eq g40.symm)
  have Z40 : n0 ≤ h40.size := Nat.le_trans Z0 E40.1
  have K40 := K0.ext E40
  have F_b1_isPresent : Fld Z h40 b1 "java/util/OptionalDouble" "isPresent" "Z" (.int (0 : Int32)) := D40 (Or.inr (hw _ (List.mem_of_getElem? (i := 44) rfl))) (ty := .boolean) (by decide)
  have F_b1_value : Fld Z h40 b1 "java/util/OptionalDouble" "value" "D" (.double (0 : UInt64)) := D40 (Or.inr (hw _ (List.mem_of_getElem? (i := 65) rfl))) (ty := .double) (by decide)
  have r41 : Steps p.tables e below S0 (T40.setTop (mkF m 3 #[.val (.double u), .second] [(.ref b1)])) := r0.trans (st40 _ (Steps.refl _))
  have r42 : Steps p.tables e below S0 (T40.setTop (mkF m 5 #[.val (.double u), .second] [(.double u), (.ref b1), (.ref b1)])) := by
    refine r41.trans ?_
    show Steps p.tables e below (T40.setTop (mkF m 3 #[.val (.double u), .second] [(.ref b1)])) _
    refine XS.dup X40.here hx rfl (hb hby d11_3) rfl rfl ?_
    refine XS.dloadN X40.here hx rfl (hb hby d11_4) rfl ?_
    exact Steps.refl _
  obtain ⟨_, _, ⟨T43, L43, k43, n43⟩, -, X43, ⟨Lc43, hQ43, l43, y43, z43⟩, st43⟩ := X40.specialBack hx (y := (⟨"java/util/OptionalDouble", "<init>", "(D)V"⟩ : MethodName)) rfl hown (mvT hZ (hw _ (List.mem_of_getElem? (i := 59) rfl))) (mvT hZ (hw _ (List.mem_of_getElem? (i := 60) rfl))) (mvT hZ (hw _ (List.mem_of_getElem? (i := 62) rfl))) (by decide) (backOf (W := 1) (rmO l Z a0 hw [] b1 u h40 n0 Z40 F_b1_isPresent F_b1_value A40 g_b1) hZ (hw _ (List.mem_of_getElem? (i := 62) rfl)) (hw _ (List.mem_of_getElem? (i := 35) rfl)) (by decide) (by decide)) (g := (mkF m 5 #[.val (.double u), .second] [(.double u), (.ref b1), (.ref b1)])) rfl (by rw [hml]; rfl) (Steps.refl _) (a := b1) (argsL := [(.double u)]) (rest := [(.ref b1)]) (lenOf pd_0 rfl) rfl (by show 2 * 0 + _ ≤ _; exact Nat.le_of_eq rfl) (hb hby d11_5) (fun _ _ => ⟨rfl, e40, (by decide : (0 + 1) + 0 ≤ _), (by decide : (0 + 2) + 0 ≤ _)⟩)
  dsimp only [Pt.U, Pt.locs, Pt.cells, Pt.slots] at X43 l43 y43 z43 st43 hQ43
  subst l43 y43 z43
  obtain ⟨rfl, Nq43, Kc43, Ec43, Fp43, Fv43⟩ := hQ43
  have N43 := Fr.app N0 Nq43
  have r44 : Steps p.tables e below S0 (T43.setTop (mkF m 8 #[.val (.double u), .second] [(.ref b1)])) := r42.trans st43
  have E43_b1 := A40.keep Kc43
  have Z43 : n0 ≤ T43.heap.size := Nat.le_trans Z40 Kc43.1
  have K43 := K40.trans Kc43 (allS (Or.inr sz_b1) (all0))
  obtain ⟨fs, hr, hrun, hended, hW, hsame⟩ := X43.leave (v := some (.ref b1)) (fun h => by rw [Bd.returns] at h; cases h)
  refine ⟨_, _, pre0 _ ?_, hrun, hended, _, _, rfl, ?_, ⟨_, rfl⟩, hW, hsame.mono (by decide) (by decide)⟩
  · rw [← hS0]
    refine r44.trans ?_
    show Steps p.tables e below (T43.setTop (mkF m 8 #[.val (.double u), .second] [(.ref b1)])) _
    jvm_step X43.here [X43.here.top, hx, (hb hby d11_8), X43.method', Bd.returns, Value.isRef, FieldType.isReference]
    first | (intro acts; rw [hr _ acts rfl rfl rfl]) | rw [hr _ _ rfl rfl rfl]
    exact Steps.refl _
  · exact ⟨b1, rfl, sz_b1, Ec43, Fp43, Fv43, K43, N43⟩
theorem pn_8 : plainName "java/util/OptionalDouble" = true := by first | (simp [plainName, overriddenIn]; done) | decide +kernel
theorem ef_8 (m : MethodId)  : entryFrame m #[] 0 = mkF m 0 #[] [] := by first | (simp [entryFrame, mkF, argsToLocals, Value.category]; done) | rfl
def QmE (Z : State)  (w : Addr) (h0 : Heap) (n0 : Nat) (v : Option Value) (h : Heap) (L : List Loc) : Prop := v = some (.ref w) ∧ Fr n0 L ∧ h = h0
set_option maxRecDepth 65536 in
set_option maxHeartbeats 40000000 in
theorem rmE (l : Launch) (Z : State) (a0 : Array Value) (hw : ∀ d ∈ tables_1, d.before a0 Z = true) (ws : List Jvm.Cond)  (w : Addr) (h0 : Heap) (n0 : Nat) (Z0 : n0 ≤ h0.size) (Sw : Sta Z h0 "java/util/OptionalDouble" "EMPTY" "Ljava/util/OptionalDouble;" (.ref w)) :
    MetFree l (⟨"java/util/OptionalDouble", "empty", "()Ljava/util/OptionalDouble;"⟩ : MethodName) (head1 (Jvm.Cond.code (⟨"java/util/OptionalDouble", "empty", "()Ljava/util/OptionalDouble;"⟩ : MethodName) jdk_2648_method_2_code 0 (some (.object "java/util/OptionalDouble")) :: ws) ({ frames := 0, cells := 0, slots := 0, locals := 0 } : Room)) (fun a U => a = #[] ∧ Z.Warmed39 U.vm ∧ U.heap = h0) (fun _ _ _ _ _ => True) (fun _ U o U' => ∃ v L, o = .returned v ∧ QmE Z w h0 n0 v U'.heap L ∧ FrameEnd U o U' L ({ frames := 0, cells := 0, slots := 0, locals := 0 } : Room).cells ({ frames := 0, cells := 0, slots := 0, locals := 0 } : Room).slots) := by
  refine MetFree.of_bodySF (plainFor_of_name pn_8) hisR ?_
  intro p e s m args below meth c s₁ Bd hml0 hP hK
  obtain ⟨rfl, hZ, hh⟩ := hP
  have hx := Bd.exec
  have hby := Bd.bytes
  have hml : c.maxLocals = 0 := hml0
  have hown : s.vm.findClass "java/util/OptionalDouble" = some m.cls := findClass_of_methodNamed Bd.named
  have hnm := (name_of_methodNamed Bd.named Bd.method).1
  have X0 : Stand p l e ({ frames := 0, cells := 0, slots := 0, locals := 0 } : Room) s m #[] below meth c s₁ [] 0 0 := Stand.of_body Bd
  have e0 : s₁.heap = h0 := by rw [← hh, Bd.state]; rfl
  have N0 := Fr.nil n0
  have pre0 : ∀ t, Steps p.tables e below (s₁.setTop (mkF m 0 #[] [])) t → Steps p.tables e below (s₁.setTop (entryFrame m #[] 0)) t := fun t_ k_ => castTop (ef_8 m ) k_
  obtain ⟨S0, hS0⟩ : ∃ z, z = s₁.setTop (mkF m 0 #[] []) := ⟨_, rfl⟩
  have r0 : Steps p.tables e below S0 (s₁.setTop (mkF m 0 #[] [])) := by rw [hS0]; exact Steps.refl _
  obtain ⟨T45, X45, e45, st45⟩ := getS2 X0 hx hZ hown (host := "") (Or.inl (hw _ (List.mem_of_getElem? (i := 37) rfl))) Via.refl e0 Sw (g := (mkF m 0 #[] [])) rfl (hb hby d8_0)
  have r46 : Steps p.tables e below S0 (T45.setTop (mkF m 3 #[] [(.ref w)])) := r0.trans (st45 _ (Steps.refl _))
  obtain ⟨fs, hr, hrun, hended, hW, hsame⟩ := X45.leave (v := some (.ref w)) (fun h => by rw [Bd.returns] at h; cases h)
  refine ⟨_, _, pre0 _ ?_, hrun, hended, _, _, rfl, ?_, ⟨_, rfl⟩, hW, hsame.mono (by decide) (by decide)⟩
  · rw [← hS0]
    refine r46.trans ?_
    show Steps p.tables e below (T45.setTop (mkF m 3 #[] [(.ref w)])) _
    jvm_step X45.here [X45.here.top, hx, (hb hby d8_3), X45.method', Bd.returns, Value.isRef, FieldType.isReference]
    first | (intro acts; rw [hr _ acts rfl rfl rfl]) | rw [hr _ _ rfl rfl rfl]
    exact Steps.refl _
  · exact ⟨rfl, N0, e45⟩
theorem pn_9 : plainName "java/util/OptionalDouble" = true := by first | (simp [plainName, overriddenIn]; done) | decide +kernel
theorem ef_9 (m : MethodId) (x0 : Addr) : entryFrame m #[(.ref x0)] 1 = mkF m 0 #[.val (.ref x0)] [] := by first | (simp [entryFrame, mkF, argsToLocals, Value.category]; done) | rfl
def QmP (Z : State) (a1 : Addr) (z : Int32) (h0 : Heap) (n0 : Nat) (v : Option Value) (h : Heap) (L : List Loc) : Prop := v = some (.int z) ∧ Fr n0 L ∧ h = h0
set_option maxRecDepth 65536 in
set_option maxHeartbeats 40000000 in
theorem rmP (l : Launch) (Z : State) (a0 : Array Value) (hw : ∀ d ∈ tables_1, d.before a0 Z = true) (ws : List Jvm.Cond) (a1 : Addr) (z : Int32) (h0 : Heap) (n0 : Nat) (Z0 : n0 ≤ h0.size) (Fp : Fld Z h0 a1 "java/util/OptionalDouble" "isPresent" "Z" (.int z)) (hz : z = 0 ∨ z = 1) :
    MetFree l (⟨"java/util/OptionalDouble", "isPresent", "()Z"⟩ : MethodName) (head1 (Jvm.Cond.code (⟨"java/util/OptionalDouble", "isPresent", "()Z"⟩ : MethodName) jdk_2648_method_6_code 1 (some .boolean) :: ws) ({ frames := 0, cells := 0, slots := 0, locals := 0 } : Room)) (fun a U => a = #[(.ref a1)] ∧ Z.Warmed39 U.vm ∧ U.heap = h0) (fun _ _ _ _ _ => True) (fun _ U o U' => ∃ v L, o = .returned v ∧ QmP Z a1 z h0 n0 v U'.heap L ∧ FrameEnd U o U' L ({ frames := 0, cells := 0, slots := 0, locals := 0 } : Room).cells ({ frames := 0, cells := 0, slots := 0, locals := 0 } : Room).slots) := by
  refine MetFree.of_bodySF (plainFor_of_name pn_9) hisR ?_
  intro p e s m args below meth c s₁ Bd hml0 hP hK
  obtain ⟨rfl, hZ, hh⟩ := hP
  have hx := Bd.exec
  have hby := Bd.bytes
  have hml : c.maxLocals = 1 := hml0
  have hown : s.vm.findClass "java/util/OptionalDouble" = some m.cls := findClass_of_methodNamed Bd.named
  have hnm := (name_of_methodNamed Bd.named Bd.method).1
  have X0 : Stand p l e ({ frames := 0, cells := 0, slots := 0, locals := 0 } : Room) s m #[(.ref a1)] below meth c s₁ [] 0 0 := Stand.of_body Bd
  have e0 : s₁.heap = h0 := by rw [← hh, Bd.state]; rfl
  have N0 := Fr.nil n0
  have pre0 : ∀ t, Steps p.tables e below (s₁.setTop (mkF m 0 #[.val (.ref a1)] [])) t → Steps p.tables e below (s₁.setTop (entryFrame m #[(.ref a1)] 1)) t := fun t_ k_ => castTop (ef_9 m a1) k_
  obtain ⟨S0, hS0⟩ : ∃ z, z = s₁.setTop (mkF m 0 #[.val (.ref a1)] []) := ⟨_, rfl⟩
  have r0 : Steps p.tables e below S0 (s₁.setTop (mkF m 0 #[.val (.ref a1)] [])) := by rw [hS0]; exact Steps.refl _
  have r47 : Steps p.tables e below S0 (s₁.setTop (mkF m 1 #[.val (.ref a1)] [(.ref a1)])) := by
    refine r0.trans ?_
    show Steps p.tables e below (s₁.setTop (mkF m 0 #[.val (.ref a1)] [])) _
    refine XS.aloadN X0.here hx rfl (hb hby d9_0) rfl rfl ?_
    exact Steps.refl _
  obtain ⟨T48, X48, e48, st48⟩ := getF X0 hx hZ hown (host := "") (Or.inl (hw _ (List.mem_of_getElem? (i := 43) rfl))) Via.refl e0 Fp (g := (mkF m 1 #[.val (.ref a1)] [(.ref a1)])) rfl rfl (hb hby d9_1)
  have r49 : Steps p.tables e below S0 (T48.setTop (mkF m 4 #[.val (.ref a1)] [(.int z)])) := r47.trans (st48 _ (Steps.refl _))
  obtain ⟨fs, hr, hrun, hended, hW, hsame⟩ := X48.leave (v := some (.int z)) (fun h => by rw [Bd.returns] at h; cases h)
  refine ⟨_, _, pre0 _ ?_, hrun, hended, _, _, rfl, ?_, ⟨_, rfl⟩, hW, hsame.mono (by decide) (by decide)⟩
  · rw [← hS0]
    refine r49.trans ?_
    show Steps p.tables e below (T48.setTop (mkF m 4 #[.val (.ref a1)] [(.int z)])) _
    exact retB X48 hx Bd.returns (hz) (hb hby d9_4) hr
  · exact ⟨rfl, N0, e48⟩
theorem pn_13 : plainName "java/util/OptionalDouble" = true := by first | (simp [plainName, overriddenIn]; done) | decide +kernel
theorem ef_13 (m : MethodId) (x0 : Addr) : entryFrame m #[(.ref x0)] 1 = mkF m 0 #[.val (.ref x0)] [] := by first | (simp [entryFrame, mkF, argsToLocals, Value.category]; done) | rfl
def QmG (Z : State) (a1 : Addr) (u : UInt64) (h0 : Heap) (n0 : Nat) (v : Option Value) (h : Heap) (L : List Loc) : Prop := v = some (.double u) ∧ Fr n0 L ∧ h = h0
set_option maxRecDepth 65536 in
set_option maxHeartbeats 40000000 in
theorem rmG (l : Launch) (Z : State) (a0 : Array Value) (hw : ∀ d ∈ tables_1, d.before a0 Z = true) (ws : List Jvm.Cond) (a1 : Addr) (u : UInt64) (h0 : Heap) (n0 : Nat) (Z0 : n0 ≤ h0.size) (Fp : Fld Z h0 a1 "java/util/OptionalDouble" "isPresent" "Z" (.int (1 : Int32))) (Fv : Fld Z h0 a1 "java/util/OptionalDouble" "value" "D" (.double u)) :
    MetFree l (⟨"java/util/OptionalDouble", "getAsDouble", "()D"⟩ : MethodName) (head1 (Jvm.Cond.code (⟨"java/util/OptionalDouble", "getAsDouble", "()D"⟩ : MethodName) jdk_2648_method_5_code 1 (some .double) :: ws) ({ frames := 0, cells := 0, slots := 0, locals := 0 } : Room)) (fun a U => a = #[(.ref a1)] ∧ Z.Warmed39 U.vm ∧ U.heap = h0) (fun _ _ _ _ _ => True) (fun _ U o U' => ∃ v L, o = .returned v ∧ QmG Z a1 u h0 n0 v U'.heap L ∧ FrameEnd U o U' L ({ frames := 0, cells := 0, slots := 0, locals := 0 } : Room).cells ({ frames := 0, cells := 0, slots := 0, locals := 0 } : Room).slots) := by
  refine MetFree.of_bodySF (plainFor_of_name pn_13) hisR ?_
  intro p e s m args below meth c s₁ Bd hml0 hP hK
  obtain ⟨rfl, hZ, hh⟩ := hP
  have hx := Bd.exec
  have hby := Bd.bytes
  have hml : c.maxLocals = 1 := hml0
  have hown : s.vm.findClass "java/util/OptionalDouble" = some m.cls := findClass_of_methodNamed Bd.named
  have hnm := (name_of_methodNamed Bd.named Bd.method).1
  have X0 : Stand p l e ({ frames := 0, cells := 0, slots := 0, locals := 0 } : Room) s m #[(.ref a1)] below meth c s₁ [] 0 0 := Stand.of_body Bd
  have e0 : s₁.heap = h0 := by rw [← hh, Bd.state]; rfl
  have N0 := Fr.nil n0
  have pre0 : ∀ t, Steps p.tables e below (s₁.setTop (mkF m 0 #[.val (.ref a1)] [])) t → Steps p.tables e below (s₁.setTop (entryFrame m #[(.ref a1)] 1)) t := fun t_ k_ => castTop (ef_13 m a1) k_
  obtain ⟨S0, hS0⟩ : ∃ z, z = s₁.setTop (mkF m 0 #[.val (.ref a1)] []) := ⟨_, rfl⟩
  have r0 : Steps p.tables e below S0 (s₁.setTop (mkF m 0 #[.val (.ref a1)] [])) := by rw [hS0]; exact Steps.refl _
  have r50 : Steps p.tables e below S0 (s₁.setTop (mkF m 1 #[.val (.ref a1)] [(.ref a1)])) := by
    refine r0.trans ?_
    show Steps p.tables e below (s₁.setTop (mkF m 0 #[.val (.ref a1)] [])) _
    refine XS.aloadN X0.here hx rfl (hb hby d13_0) rfl rfl ?_
    exact Steps.refl _
  obtain ⟨T51, X51, e51, st51⟩ := getF X0 hx hZ hown (host := "") (Or.inl (hw _ (List.mem_of_getElem? (i := 43) rfl))) Via.refl e0 Fp (g := (mkF m 1 #[.val (.ref a1)] [(.ref a1)])) rfl rfl (hb hby d13_1)
  have r52 : Steps p.tables e below S0 (T51.setTop (mkF m 4 #[.val (.ref a1)] [(.int (1 : Int32))])) := r50.trans (st51 _ (Steps.refl _))
  have r53 : Steps p.tables e below S0 (T51.setTop (mkF m 18 #[.val (.ref a1)] [(.ref a1)])) := by
    refine r52.trans ?_
    show Steps p.tables e below (T51.setTop (mkF m 4 #[.val (.ref a1)] [(.int (1 : Int32))])) _
    refine XS.ifYes X51.here hx rfl (pc0 := 4) (pc' := 17) rfl (hb hby d13_4) rfl ((if0 _ _).trans (feq (by decide)).2) (by decide) (by decide) ?_
    refine XS.aloadN X51.here hx rfl (hb hby d13_17) rfl rfl ?_
    exact Steps.refl _
  obtain ⟨T54, X54, e54, st54⟩ := getF X51 hx hZ hown (host := "") (Or.inl (hw _ (List.mem_of_getElem? (i := 64) rfl))) Via.refl e51 Fv (g := (mkF m 18 #[.val (.ref a1)] [(.ref a1)])) rfl rfl (hb hby d13_18)
  have r55 : Steps p.tables e below S0 (T54.setTop (mkF m 21 #[.val (.ref a1)] [(.double u)])) := r53.trans (st54 _ (Steps.refl _))
  obtain ⟨fs, hr, hrun, hended, hW, hsame⟩ := X54.leave (v := some (.double u)) (fun h => by rw [Bd.returns] at h; cases h)
  refine ⟨_, _, pre0 _ ?_, hrun, hended, _, _, rfl, ?_, ⟨_, rfl⟩, hW, hsame.mono (by decide) (by decide)⟩
  · rw [← hS0]
    refine r55.trans ?_
    show Steps p.tables e below (T54.setTop (mkF m 21 #[.val (.ref a1)] [(.double u)])) _
    exact retD X54 hx Bd.returns (hb hby d13_21) hr
  · exact ⟨rfl, N0, e54⟩
theorem pn_7 : plainName "org/rowfold/aggregate/Moments" = true := by first | (simp [plainName, overriddenIn]; done) | decide +kernel
theorem ef_7 (m : MethodId) (x0 : Addr) (x1 : Int32) : entryFrame m #[(.ref x0), (.int x1)] 4 = mkF m 0 #[.val (.ref x0), .val (.int x1), .unset, .unset] [] := by first | (simp [entryFrame, mkF, argsToLocals, Value.category]; done) | rfl
def QmV0e (Z : State) (a1 : Addr) (p1 : Int32) (cn : Int64) (w : Addr) (h0 : Heap) (n0 : Nat) (v : Option Value) (h : Heap) (L : List Loc) : Prop := v = some (.ref w) ∧ Fr n0 L ∧ h = h0
set_option maxRecDepth 65536 in
set_option maxHeartbeats 40000000 in
theorem rmV0e (l : Launch) (Z : State) (a0 : Array Value) (hw : ∀ d ∈ tables_1, d.before a0 Z = true) (ws : List Jvm.Cond) (a1 : Addr) (p1 : Int32) (cn : Int64) (w : Addr) (h0 : Heap) (n0 : Nat) (Z0 : n0 ≤ h0.size) (hp : p1 = 0) (Fc : Fld Z h0 a1 "org/rowfold/aggregate/Moments" "count" "J" (.long cn)) (Sw : Sta Z h0 "java/util/OptionalDouble" "EMPTY" "Ljava/util/OptionalDouble;" (.ref w)) (hD : cn < 1) :
    MetFree l (⟨"org/rowfold/aggregate/Moments", "variance", "(Z)Ljava/util/OptionalDouble;"⟩ : MethodName) (head1 (Jvm.Cond.code (⟨"org/rowfold/aggregate/Moments", "variance", "(Z)Ljava/util/OptionalDouble;"⟩ : MethodName) prog_6_method_4_code 4 (some (.object "java/util/OptionalDouble")) :: ws) ({ frames := 1, cells := 0, slots := 0, locals := 11 } : Room)) (fun a U => a = #[(.ref a1), (.int p1)] ∧ Z.Warmed39 U.vm ∧ U.heap = h0) (fun _ _ _ _ _ => True) (fun _ U o U' => ∃ v L, o = .returned v ∧ QmV0e Z a1 p1 cn w h0 n0 v U'.heap L ∧ FrameEnd U o U' L ({ frames := 1, cells := 0, slots := 0, locals := 11 } : Room).cells ({ frames := 1, cells := 0, slots := 0, locals := 11 } : Room).slots) := by
  refine MetFree.of_bodySF (plainFor_of_name pn_7) hisR ?_
  intro p e s m args below meth c s₁ Bd hml0 hP hK
  obtain ⟨rfl, hZ, hh⟩ := hP
  have hx := Bd.exec
  have hby := Bd.bytes
  have hml : c.maxLocals = 4 := hml0
  have hown : s.vm.findClass "org/rowfold/aggregate/Moments" = some m.cls := findClass_of_methodNamed Bd.named
  have hnm := (name_of_methodNamed Bd.named Bd.method).1
  have X0 : Stand p l e ({ frames := 1, cells := 0, slots := 0, locals := 11 } : Room) s m #[(.ref a1), (.int p1)] below meth c s₁ [] 0 0 := Stand.of_body Bd
  have e0 : s₁.heap = h0 := by rw [← hh, Bd.state]; rfl
  have N0 := Fr.nil n0
  have pre0 : ∀ t, Steps p.tables e below (s₁.setTop (mkF m 0 #[.val (.ref a1), .val (.int p1), .unset, .unset] [])) t → Steps p.tables e below (s₁.setTop (entryFrame m #[(.ref a1), (.int p1)] 4)) t := fun t_ k_ => castTop (ef_7 m a1 p1) k_
  obtain ⟨S0, hS0⟩ : ∃ z, z = s₁.setTop (mkF m 0 #[.val (.ref a1), .val (.int p1), .unset, .unset] []) := ⟨_, rfl⟩
  have r0 : Steps p.tables e below S0 (s₁.setTop (mkF m 0 #[.val (.ref a1), .val (.int p1), .unset, .unset] [])) := by rw [hS0]; exact Steps.refl _
  have r56 : Steps p.tables e below S0 (s₁.setTop (mkF m 14 #[.val (.ref a1), .val (.int p1), .unset, .unset] [(.ref a1)])) := by
    refine r0.trans ?_
    show Steps p.tables e below (s₁.setTop (mkF m 0 #[.val (.ref a1), .val (.int p1), .unset, .unset] [])) _
    refine XS.iloadN X0.here hx rfl (hb hby d7_0) rfl ?_
    refine XS.ifYes X0.here hx rfl (pc0 := 1) (pc' := 13) rfl (hb hby d7_1) rfl ((if0 _ _).trans (teq hp).1) (by decide) (by decide) ?_
    refine XS.aloadN X0.here hx rfl (hb hby d7_13) rfl rfl ?_
    exact Steps.refl _
  obtain ⟨T57, X57, e57, st57⟩ := getF X0 hx hZ hown (host := "") (Or.inl (hw _ (List.mem_of_getElem? (i := 20) rfl))) Via.refl e0 Fc (g := (mkF m 14 #[.val (.ref a1), .val (.int p1), .unset, .unset] [(.ref a1)])) rfl rfl (hb hby d7_14)
  have r58 : Steps p.tables e below S0 (T57.setTop (mkF m 17 #[.val (.ref a1), .val (.int p1), .unset, .unset] [(.long cn)])) := r56.trans (st57 _ (Steps.refl _))
  have r59 : Steps p.tables e below S0 (T57.setTop (mkF m 24 #[.val (.ref a1), .val (.int p1), .val (.long cn), .second] [])) := by
    refine r58.trans ?_
    show Steps p.tables e below (T57.setTop (mkF m 17 #[.val (.ref a1), .val (.int p1), .unset, .unset] [(.long cn)])) _
    refine XS.lstoreN X57.here hx rfl (hb hby d7_17) rfl (l' := #[.val (.ref a1), .val (.int p1), .val (.long cn), .second]) rfl ?_
    refine XS.lloadN X57.here hx rfl (hb hby d7_18) rfl ?_
    refine XS.lconst X57.here hx rfl (hb hby d7_19) ?_
    show Steps p.tables e below (T57.setTop (mkF m 20 #[.val (.ref a1), .val (.int p1), .val (.long cn), .second] [(.long (1 : Int64)), (.long cn)])) _
    refine XS.lcmp X57.here hx rfl (hb hby d7_20) rfl ?_
    refine XS.ifNo X57.here hx rfl (hb hby d7_21) rfl ((if0 _ _).trans (tlt ((lw_lt _ _).mpr hD)).2.1) ?_
    exact Steps.refl _
  obtain ⟨_, _, ⟨T60, L60, k60, n60⟩, -, X60, ⟨Lc60, hQ60, l60, y60, z60⟩, st60⟩ := Jvm.LawKit.callS X57 hx (y := (⟨"java/util/OptionalDouble", "empty", "()Ljava/util/OptionalDouble;"⟩ : MethodName)) hown (mvT hZ (hw _ (List.mem_of_getElem? (i := 33) rfl))) (mvT hZ (hw _ (List.mem_of_getElem? (i := 34) rfl))) (mvT hZ (hw _ (List.mem_of_getElem? (i := 35) rfl))) (mvT hZ (hw _ (List.mem_of_getElem? (i := 36) rfl))) (by decide) (backOf (W := 0) (rmE l Z a0 hw [] w h0 n0 Z0 Sw) hZ (hw _ (List.mem_of_getElem? (i := 36) rfl)) (hw _ (List.mem_of_getElem? (i := 35) rfl)) (by decide) (by decide)) (g := (mkF m 24 #[.val (.ref a1), .val (.int p1), .val (.long cn), .second] [])) rfl (by rw [hml]; rfl) (argsL := []) (rest := []) (lenOf pd_1 rfl) rfl (by show 2 * 0 + _ ≤ _; exact Nat.le_of_eq rfl) (hb hby d7_24) (fun _ _ => ⟨rfl, e57, (by decide : 0 + 0 ≤ _), (by decide : 0 + 0 ≤ _)⟩)
  dsimp only [Pt.U, Pt.locs, Pt.cells, Pt.slots] at X60 l60 y60 z60 st60 hQ60
  subst l60 y60 z60
  obtain ⟨rfl, Nq60, e60⟩ := hQ60
  have N60 := Fr.app N0 Nq60
  have r61 : Steps p.tables e below S0 (T60.setTop (mkF m 27 #[.val (.ref a1), .val (.int p1), .val (.long cn), .second] [(.ref w)])) := r59.trans (st60 _ (Steps.refl _))
  have r62 : Steps p.tables e below S0 (T60.setTop (mkF m 40 #[.val (.ref a1), .val (.int p1), .val (.long cn), .second] [(.ref w)])) := by
    refine r61.trans ?_
    show Steps p.tables e below (T60.setTop (mkF m 27 #[.val (.ref a1), .val (.int p1), .val (.long cn), .second] [(.ref w)])) _
    refine XS.goto X60.here hx rfl (pc0 := 27) (pc' := 40) rfl (hb hby d7_27) (by decide) (by decide) ?_
    exact Steps.refl _
  obtain ⟨fs, hr, hrun, hended, hW, hsame⟩ := X60.leave (v := some (.ref w)) (fun h => by rw [Bd.returns] at h; cases h)
  refine ⟨_, _, pre0 _ ?_, hrun, hended, _, _, rfl, ?_, ⟨_, rfl⟩, hW, hsame.mono (by decide) (by decide)⟩
  · rw [← hS0]
    refine r62.trans ?_
    show Steps p.tables e below (T60.setTop (mkF m 40 #[.val (.ref a1), .val (.int p1), .val (.long cn), .second] [(.ref w)])) _
    jvm_step X60.here [X60.here.top, hx, (hb hby d7_40), X60.method', Bd.returns, Value.isRef, FieldType.isReference]
    first | (intro acts; rw [hr _ acts rfl rfl rfl]) | rw [hr _ _ rfl rfl rfl]
    exact Steps.refl _
  · exact ⟨rfl, N60, e60⟩
def QmV0o (Z : State) (a1 : Addr) (p1 : Int32) (cn : Int64) (sq : UInt64) (dv : UInt64) (h0 : Heap) (n0 : Nat) (v : Option Value) (h : Heap) (L : List Loc) : Prop := ∃ b : Addr, v = some (.ref b) ∧ h0.size ≤ b ∧ Exa Z h b "java/util/OptionalDouble" ∧ Fld Z h b "java/util/OptionalDouble" "isPresent" "Z" (.int (1 : Int32)) ∧ Fld Z h b "java/util/OptionalDouble" "value" "D" (.double dv) ∧ Keep h0 h [] ∧ Fr n0 L
set_option maxRecDepth 65536 in
set_option maxHeartbeats 40000000 in
theorem rmV0o (l : Launch) (Z : State) (a0 : Array Value) (hw : ∀ d ∈ tables_1, d.before a0 Z = true) (ws : List Jvm.Cond) (a1 : Addr) (p1 : Int32) (cn : Int64) (sq : UInt64) (dv : UInt64) (h0 : Heap) (n0 : Nat) (Z0 : n0 ≤ h0.size) (hp : p1 = 0) (Fc : Fld Z h0 a1 "org/rowfold/aggregate/Moments" "count" "J" (.long cn)) (Fs : Fld Z h0 a1 "org/rowfold/aggregate/Moments" "squares" "D" (.double sq)) (hD : ¬ cn < 1) (ev : FP.ddiv sq (FP.l2d cn) = dv) (nv : NoNaN64 dv) :
    MetFree l (⟨"org/rowfold/aggregate/Moments", "variance", "(Z)Ljava/util/OptionalDouble;"⟩ : MethodName) (head1 (Jvm.Cond.code (⟨"org/rowfold/aggregate/Moments", "variance", "(Z)Ljava/util/OptionalDouble;"⟩ : MethodName) prog_6_method_4_code 4 (some (.object "java/util/OptionalDouble")) :: ws) ({ frames := 3, cells := 1, slots := 2, locals := 40 } : Room)) (fun a U => a = #[(.ref a1), (.int p1)] ∧ Z.Warmed39 U.vm ∧ U.heap = h0) (fun _ _ _ _ _ => True) (fun _ U o U' => ∃ v L, o = .returned v ∧ QmV0o Z a1 p1 cn sq dv h0 n0 v U'.heap L ∧ FrameEnd U o U' L ({ frames := 3, cells := 1, slots := 2, locals := 40 } : Room).cells ({ frames := 3, cells := 1, slots := 2, locals := 40 } : Room).slots) := by
  refine MetFree.of_bodySF (plainFor_of_name pn_7) hisR ?_
  intro p e s m args below meth c s₁ Bd hml0 hP hK
  obtain ⟨rfl, hZ, hh⟩ := hP
  have hx := Bd.exec
  have hby := Bd.bytes
  have hml : c.maxLocals = 4 := hml0
  have hown : s.vm.findClass "org/rowfold/aggregate/Moments" = some m.cls := findClass_of_methodNamed Bd.named
  have hnm := (name_of_methodNamed Bd.named Bd.method).1
  have X0 : Stand p l e ({ frames := 3, cells := 1, slots := 2, locals := 40 } : Room) s m #[(.ref a1), (.int p1)] below meth c s₁ [] 0 0 := Stand.of_body Bd
  have e0 : s₁.heap = h0 := by rw [← hh, Bd.state]; rfl
  have N0 := Fr.nil n0
  have pre0 : ∀ t, Steps p.tables e below (s₁.setTop (mkF m 0 #[.val (.ref a1), .val (.int p1), .unset, .unset] [])) t → Steps p.tables e below (s₁.setTop (entryFrame m #[(.ref a1), (.int p1)] 4)) t := fun t_ k_ => castTop (ef_7 m a1 p1) k_
  obtain ⟨S0, hS0⟩ : ∃ z, z = s₁.setTop (mkF m 0 #[.val (.ref a1), .val (.int p1), .unset, .unset] []) := ⟨_, rfl⟩
  have r0 : Steps p.tables e below S0 (s₁.setTop (mkF m 0 #[.val (.ref a1), .val (.int p1), .unset, .unset] [])) := by rw [hS0]; exact Steps.refl _
  have K0 := Keep.refl h0 []
  have r63 : Steps p.tables e below S0 (s₁.setTop (mkF m 14 #[.val (.ref a1), .val (.int p1), .unset, .unset] [(.ref a1)])) := by
    refine r0.trans ?_
    show Steps p.tables e below (s₁.setTop (mkF m 0 #[.val (.ref a1), .val (.int p1), .unset, .unset] [])) _
    refine XS.iloadN X0.here hx rfl (hb hby d7_0) rfl ?_
    refine XS.ifYes X0.here hx rfl (pc0 := 1) (pc' := 13) rfl (hb hby d7_1) rfl ((if0 _ _).trans (teq hp).1) (by decide) (by decide) ?_
    refine XS.aloadN X0.here hx rfl (hb hby d7_13) rfl rfl ?_
    exact Steps.refl _
  obtain ⟨T64, X64, e64, st64⟩ := getF X0 hx hZ hown (host := "") (Or.inl (hw _ (List.mem_of_getElem? (i := 20) rfl))) Via.refl e0 Fc (g := (mkF m 14 #[.val (.ref a1), .val (.int p1), .unset, .unset] [(.ref a1)])) rfl rfl (hb hby d7_14)
  have r65 : Steps p.tables e below S0 (T64.setTop (mkF m 17 #[.val (.ref a1), .val (.int p1), .unset, .unset] [(.long cn)])) := r63.trans (st64 _ (Steps.refl _))
  have r66 : Steps p.tables e below S0 (T64.setTop (mkF m 31 #[.val (.ref a1), .val (.int p1), .val (.long cn), .second] [(.ref a1)])) := by
    refine r65.trans ?_
    show Steps p.tables e below (T64.setTop (mkF m 17 #[.val (.ref a1), .val (.int p1), .unset, .unset] [(.long cn)])) _
    refine XS.lstoreN X64.here hx rfl (hb hby d7_17) rfl (l' := #[.val (.ref a1), .val (.int p1), .val (.long cn), .second]) rfl ?_
    refine XS.lloadN X64.here hx rfl (hb hby d7_18) rfl ?_
    refine XS.lconst X64.here hx rfl (hb hby d7_19) ?_
    show Steps p.tables e below (T64.setTop (mkF m 20 #[.val (.ref a1), .val (.int p1), .val (.long cn), .second] [(.long (1 : Int64)), (.long cn)])) _
    refine XS.lcmp X64.here hx rfl (hb hby d7_20) rfl ?_
    refine XS.ifYes X64.here hx rfl (pc0 := 21) (pc' := 30) rfl (hb hby d7_21) rfl ((if0 _ _).trans (flt (fun z => hD ((lw_lt _ _).mp z))).2.1) (by decide) (by decide) ?_
    refine XS.aloadN X64.here hx rfl (hb hby d7_30) rfl rfl ?_
    exact Steps.refl _
  obtain ⟨T67, X67, e67, st67⟩ := getF X64 hx hZ hown (host := "") (Or.inl (hw _ (List.mem_of_getElem? (i := 52) rfl))) Via.refl e64 Fs (g := (mkF m 31 #[.val (.ref a1), .val (.int p1), .val (.long cn), .second] [(.ref a1)])) rfl rfl (hb hby d7_31)
  have r68 : Steps p.tables e below S0 (T67.setTop (mkF m 34 #[.val (.ref a1), .val (.int p1), .val (.long cn), .second] [(.double sq)])) := r66.trans (st67 _ (Steps.refl _))
  have r69 : Steps p.tables e below S0 (T67.setTop (mkF m 37 #[.val (.ref a1), .val (.int p1), .val (.long cn), .second] [(.double dv)])) := by
    refine r68.trans ?_
    show Steps p.tables e below (T67.setTop (mkF m 34 #[.val (.ref a1), .val (.int p1), .val (.long cn), .second] [(.double sq)])) _
    refine XS.lloadN X67.here hx rfl (hb hby d7_34) rfl ?_
    refine XS.l2dS X67.here hx rfl (hb hby d7_35) rfl rfl ?_
    refine XS.ddivS X67.here hx rfl (hb hby d7_36) rfl (by rw [ev]; exact nv) ev ?_
    exact Steps.refl _
  obtain ⟨_, _, ⟨T70, L70, k70, n70⟩, -, X70, ⟨Lc70, hQ70, l70, y70, z70⟩, st70⟩ := Jvm.LawKit.callS X67 hx (y := (⟨"java/util/OptionalDouble", "of", "(D)Ljava/util/OptionalDouble;"⟩ : MethodName)) hown (mvT hZ (hw _ (List.mem_of_getElem? (i := 54) rfl))) (mvT hZ (hw _ (List.mem_of_getElem? (i := 55) rfl))) (mvT hZ (hw _ (List.mem_of_getElem? (i := 35) rfl))) (mvT hZ (hw _ (List.mem_of_getElem? (i := 56) rfl))) (by decide) (backOf (W := 0) (rmF l Z a0 hw [] dv h0 n0 Z0) hZ (hw _ (List.mem_of_getElem? (i := 56) rfl)) (hw _ (List.mem_of_getElem? (i := 35) rfl)) (by decide) (by decide)) (g := (mkF m 37 #[.val (.ref a1), .val (.int p1), .val (.long cn), .second] [(.double dv)])) rfl (by rw [hml]; rfl) (argsL := [(.double dv)]) (rest := []) (lenOf pd_2 rfl) rfl (by show 2 * 0 + _ ≤ _; exact Nat.le_of_eq rfl) (hb hby d7_37) (fun _ _ => ⟨rfl, e67, (by decide : 0 + 1 ≤ _), (by decide : 0 + 2 ≤ _)⟩)
  dsimp only [Pt.U, Pt.locs, Pt.cells, Pt.slots] at X70 l70 y70 z70 st70 hQ70
  subst l70 y70 z70
  obtain ⟨b1, rfl, sb, Eb, Fp, Fv, Kc70, Nq70⟩ := hQ70
  have N70 := Fr.app N0 Nq70
  have r71 : Steps p.tables e below S0 (T70.setTop (mkF m 40 #[.val (.ref a1), .val (.int p1), .val (.long cn), .second] [(.ref b1)])) := r69.trans (st70 _ (Steps.refl _))
  have F70_a1_count := Fc.keep Kc70 nin0
  have F70_a1_squares := Fs.keep Kc70 nin0
  have Z70 : n0 ≤ T70.heap.size := Nat.le_trans Z0 Kc70.1
  have K70 := K0.trans Kc70 (all0)
  obtain ⟨fs, hr, hrun, hended, hW, hsame⟩ := X70.leave (v := some (.ref b1)) (fun h => by rw [Bd.returns] at h; cases h)
  refine ⟨_, _, pre0 _ ?_, hrun, hended, _, _, rfl, ?_, ⟨_, rfl⟩, hW, hsame.mono (by decide) (by decide)⟩
  · rw [← hS0]
    refine r71.trans ?_
    show Steps p.tables e below (T70.setTop (mkF m 40 #[.val (.ref a1), .val (.int p1), .val (.long cn), .second] [(.ref b1)])) _
    jvm_step X70.here [X70.here.top, hx, (hb hby d7_40), X70.method', Bd.returns, Value.isRef, FieldType.isReference]
    first | (intro acts; rw [hr _ acts rfl rfl rfl]) | rw [hr _ _ rfl rfl rfl]
    exact Steps.refl _
  · exact ⟨b1, rfl, sb, Eb, Fp, Fv, K70, N70⟩
theorem pn_1 : plainName "org/rowfold/aggregate/MomentsCombinePinLaw" = true := by first | (simp [plainName, overriddenIn]; done) | decide +kernel
theorem ef_1 (m : MethodId) (x0 : Int32) : entryFrame m #[(.int x0)] 1 = mkF m 0 #[.val (.int x0)] [] := by first | (simp [entryFrame, mkF, argsToLocals, Value.category]; done) | rfl
def QmS (Z : State) (p1 : Int32)  (h0 : Heap) (n0 : Nat) (v : Option Value) (h : Heap) (L : List Loc) : Prop := ∃ z : Int32, v = some (.int z) ∧ z.toInt.natAbs ≤ 1048576 ∧ Fr n0 L ∧ h = h0
set_option maxRecDepth 65536 in
set_option maxHeartbeats 40000000 in
theorem rmS (l : Launch) (Z : State) (a0 : Array Value) (hw : ∀ d ∈ tables_1, d.before a0 Z = true) (ws : List Jvm.Cond) (p1 : Int32)  (h0 : Heap) (n0 : Nat) (Z0 : n0 ≤ h0.size)  :
    MetFree l (⟨"org/rowfold/aggregate/MomentsCombinePinLaw", "small", "(I)I"⟩ : MethodName) (head1 (Jvm.Cond.code (⟨"org/rowfold/aggregate/MomentsCombinePinLaw", "small", "(I)I"⟩ : MethodName) method_2_code 1 (some .int) :: ws) ({ frames := 0, cells := 0, slots := 0, locals := 0 } : Room)) (fun a U => a = #[(.int p1)] ∧ Z.Warmed39 U.vm ∧ U.heap = h0) (fun _ _ _ _ _ => True) (fun _ U o U' => ∃ v L, o = .returned v ∧ QmS Z p1 h0 n0 v U'.heap L ∧ FrameEnd U o U' L ({ frames := 0, cells := 0, slots := 0, locals := 0 } : Room).cells ({ frames := 0, cells := 0, slots := 0, locals := 0 } : Room).slots) := by
  refine MetFree.of_bodySF (plainFor_of_name pn_1) hisR ?_
  intro p e s m args below meth c s₁ Bd hml0 hP hK
  obtain ⟨rfl, hZ, hh⟩ := hP
  have hx := Bd.exec
  have hby := Bd.bytes
  have hml : c.maxLocals = 1 := hml0
  have hown : s.vm.findClass "org/rowfold/aggregate/MomentsCombinePinLaw" = some m.cls := findClass_of_methodNamed Bd.named
  have hnm := (name_of_methodNamed Bd.named Bd.method).1
  have X0 : Stand p l e ({ frames := 0, cells := 0, slots := 0, locals := 0 } : Room) s m #[(.int p1)] below meth c s₁ [] 0 0 := Stand.of_body Bd
  have e0 : s₁.heap = h0 := by rw [← hh, Bd.state]; rfl
  have N0 := Fr.nil n0
  have pre0 : ∀ t, Steps p.tables e below (s₁.setTop (mkF m 0 #[.val (.int p1)] [])) t → Steps p.tables e below (s₁.setTop (entryFrame m #[(.int p1)] 1)) t := fun t_ k_ => castTop (ef_1 m p1) k_
  obtain ⟨S0, hS0⟩ : ∃ z, z = s₁.setTop (mkF m 0 #[.val (.int p1)] []) := ⟨_, rfl⟩
  have r0 : Steps p.tables e below S0 (s₁.setTop (mkF m 0 #[.val (.int p1)] [])) := by rw [hS0]; exact Steps.refl _
  have r72 : Steps p.tables e below S0 (s₁.setTop (mkF m 7 #[.val (.int p1)] [(.int ((p1 <<< ((11 : Int32) &&& 31)) >>> ((11 : Int32) &&& 31)))])) := by
    refine r0.trans ?_
    show Steps p.tables e below (s₁.setTop (mkF m 0 #[.val (.int p1)] [])) _
    refine XS.iloadN X0.here hx rfl (hb hby d1_0) rfl ?_
    refine XS.bipush X0.here hx rfl (hb hby d1_1) ?_
    refine XS.ishl X0.here hx rfl (hb hby d1_3) rfl ?_
    show Steps p.tables e below (s₁.setTop (mkF m 4 #[.val (.int p1)] [(.int (p1 <<< ((11 : Int32) &&& 31)))])) _
    refine XS.bipush X0.here hx rfl (hb hby d1_4) ?_
    refine XS.ishr X0.here hx rfl (hb hby d1_6) rfl ?_
    exact Steps.refl _
  obtain ⟨fs, hr, hrun, hended, hW, hsame⟩ := X0.leave (v := some (.int ((p1 <<< ((11 : Int32) &&& 31)) >>> ((11 : Int32) &&& 31)))) (fun h => by rw [Bd.returns] at h; cases h)
  refine ⟨_, _, pre0 _ ?_, hrun, hended, _, _, rfl, ?_, ⟨_, rfl⟩, hW, hsame.mono (by decide) (by decide)⟩
  · rw [← hS0]
    refine r72.trans ?_
    show Steps p.tables e below (s₁.setTop (mkF m 7 #[.val (.int p1)] [(.int ((p1 <<< ((11 : Int32) &&& 31)) >>> ((11 : Int32) &&& 31)))])) _
    exact retI X0 hx Bd.returns (hb hby d1_7) hr
  · exact ⟨_, rfl, own_small p1, N0, e0⟩
theorem pn_5 : plainName "org/rowfold/aggregate/MomentsCombinePinLaw" = true := by first | (simp [plainName, overriddenIn]; done) | decide +kernel
theorem ef_5 (m : MethodId) (x0 : Int32) (x1 : Int32) : entryFrame m #[(.int x0), (.int x1)] 2 = mkF m 0 #[.val (.int x0), .val (.int x1)] [] := by first | (simp [entryFrame, mkF, argsToLocals, Value.category]; done) | rfl
def QmVa (Z : State) (p1 : Int32) (p2 : Int32) (z : Int64) (h0 : Heap) (n0 : Nat) (v : Option Value) (h : Heap) (L : List Loc) : Prop := v = some (.long z) ∧ Fr n0 L ∧ h = h0
set_option maxRecDepth 65536 in
set_option maxHeartbeats 40000000 in
theorem rmVa (l : Launch) (Z : State) (a0 : Array Value) (hw : ∀ d ∈ tables_1, d.before a0 Z = true) (ws : List Jvm.Cond) (p1 : Int32) (p2 : Int32) (z : Int64) (h0 : Heap) (n0 : Nat) (Z0 : n0 ≤ h0.size) (hz : (p1 = 0 ∧ z = 0) ∨ (¬ p1 = 0 ∧ z = p2.toInt64)) :
    MetFree l (⟨"org/rowfold/aggregate/MomentsCombinePinLaw", "val", "(ZI)J"⟩ : MethodName) (head1 (Jvm.Cond.code (⟨"org/rowfold/aggregate/MomentsCombinePinLaw", "val", "(ZI)J"⟩ : MethodName) method_3_code 2 (some .long) :: ws) ({ frames := 0, cells := 0, slots := 0, locals := 0 } : Room)) (fun a U => a = #[(.int p1), (.int p2)] ∧ Z.Warmed39 U.vm ∧ U.heap = h0) (fun _ _ _ _ _ => True) (fun _ U o U' => ∃ v L, o = .returned v ∧ QmVa Z p1 p2 z h0 n0 v U'.heap L ∧ FrameEnd U o U' L ({ frames := 0, cells := 0, slots := 0, locals := 0 } : Room).cells ({ frames := 0, cells := 0, slots := 0, locals := 0 } : Room).slots) := by
  refine MetFree.of_bodySF (plainFor_of_name pn_5) hisR ?_
  intro p e s m args below meth c s₁ Bd hml0 hP hK
  obtain ⟨rfl, hZ, hh⟩ := hP
  have hx := Bd.exec
  have hby := Bd.bytes
  have hml : c.maxLocals = 2 := hml0
  have hown : s.vm.findClass "org/rowfold/aggregate/MomentsCombinePinLaw" = some m.cls := findClass_of_methodNamed Bd.named
  have hnm := (name_of_methodNamed Bd.named Bd.method).1
  have X0 : Stand p l e ({ frames := 0, cells := 0, slots := 0, locals := 0 } : Room) s m #[(.int p1), (.int p2)] below meth c s₁ [] 0 0 := Stand.of_body Bd
  have e0 : s₁.heap = h0 := by rw [← hh, Bd.state]; rfl
  have N0 := Fr.nil n0
  have pre0 : ∀ t, Steps p.tables e below (s₁.setTop (mkF m 0 #[.val (.int p1), .val (.int p2)] [])) t → Steps p.tables e below (s₁.setTop (entryFrame m #[(.int p1), (.int p2)] 2)) t := fun t_ k_ => castTop (ef_5 m p1 p2) k_
  obtain ⟨S0, hS0⟩ : ∃ z, z = s₁.setTop (mkF m 0 #[.val (.int p1), .val (.int p2)] []) := ⟨_, rfl⟩
  have r0 : Steps p.tables e below S0 (s₁.setTop (mkF m 0 #[.val (.int p1), .val (.int p2)] [])) := by rw [hS0]; exact Steps.refl _
  have r73 : Steps p.tables e below S0 (s₁.setTop (mkF m 1 #[.val (.int p1), .val (.int p2)] [(.int p1)])) := by
    refine r0.trans ?_
    show Steps p.tables e below (s₁.setTop (mkF m 0 #[.val (.int p1), .val (.int p2)] [])) _
    refine XS.iloadN X0.here hx rfl (hb hby d5_0) rfl ?_
    exact Steps.refl _
  rcases hz with ⟨h1, h2⟩ | ⟨h1, h2⟩
  · skip
    have r74 : Steps p.tables e below S0 (s₁.setTop (mkF m 10 #[.val (.int p1), .val (.int p2)] [(.long (0 : Int64))])) := by
      refine r73.trans ?_
      show Steps p.tables e below (s₁.setTop (mkF m 1 #[.val (.int p1), .val (.int p2)] [(.int p1)])) _
      refine XS.ifYes X0.here hx rfl (pc0 := 1) (pc' := 9) rfl (hb hby d5_1) rfl ((if0 _ _).trans (teq h1).1) (by decide) (by decide) ?_
      refine XS.lconst X0.here hx rfl (hb hby d5_9) ?_
      exact Steps.refl _
    obtain ⟨fs, hr, hrun, hended, hW, hsame⟩ := X0.leave (v := some (.long (0 : Int64))) (fun h => by rw [Bd.returns] at h; cases h)
    refine ⟨_, _, pre0 _ ?_, hrun, hended, _, _, rfl, ?_, ⟨_, rfl⟩, hW, hsame.mono (by decide) (by decide)⟩
    · rw [← hS0]
      refine r74.trans ?_
      show Steps p.tables e below (s₁.setTop (mkF m 10 #[.val (.int p1), .val (.int p2)] [(.long (0 : Int64))])) _
      jvm_step X0.here [X0.here.top, hx, (hb hby d5_10), X0.method', Bd.returns, narrow]
      first | (intro acts; rw [hr _ acts rfl rfl rfl]) | rw [hr _ _ rfl rfl rfl]
      exact Steps.refl _
    · exact ⟨by rw [h2], N0, e0⟩
  · skip
    have r75 : Steps p.tables e below S0 (s₁.setTop (mkF m 10 #[.val (.int p1), .val (.int p2)] [(.long (p2.toInt64))])) := by
      refine r73.trans ?_
      show Steps p.tables e below (s₁.setTop (mkF m 1 #[.val (.int p1), .val (.int p2)] [(.int p1)])) _
      refine XS.ifNo X0.here hx rfl (hb hby d5_1) rfl ((if0 _ _).trans (feq h1).1) ?_
      refine XS.iloadN X0.here hx rfl (hb hby d5_4) rfl ?_
      refine XS.i2l X0.here hx rfl (hb hby d5_5) rfl ?_
      show Steps p.tables e below (s₁.setTop (mkF m 6 #[.val (.int p1), .val (.int p2)] [(.long (p2.toInt64))])) _
      refine XS.goto X0.here hx rfl (pc0 := 6) (pc' := 10) rfl (hb hby d5_6) (by decide) (by decide) ?_
      exact Steps.refl _
    obtain ⟨fs, hr, hrun, hended, hW, hsame⟩ := X0.leave (v := some (.long (p2.toInt64))) (fun h => by rw [Bd.returns] at h; cases h)
    refine ⟨_, _, pre0 _ ?_, hrun, hended, _, _, rfl, ?_, ⟨_, rfl⟩, hW, hsame.mono (by decide) (by decide)⟩
    · rw [← hS0]
      refine r75.trans ?_
      show Steps p.tables e below (s₁.setTop (mkF m 10 #[.val (.int p1), .val (.int p2)] [(.long (p2.toInt64))])) _
      jvm_step X0.here [X0.here.top, hx, (hb hby d5_10), X0.method', Bd.returns, narrow]
      first | (intro acts; rw [hr _ acts rfl rfl rfl]) | rw [hr _ _ rfl rfl rfl]
      exact Steps.refl _
    · exact ⟨by rw [h2], N0, e0⟩
theorem pn_6 : plainName "org/rowfold/aggregate/MomentsCombinePinLaw" = true := by first | (simp [plainName, overriddenIn]; done) | decide +kernel
theorem ef_6 (m : MethodId) (x0 : Int32) (x1 : Int32) : entryFrame m #[(.int x0), (.int x1)] 2 = mkF m 0 #[.val (.int x0), .val (.int x1)] [] := by first | (simp [entryFrame, mkF, argsToLocals, Value.category]; done) | rfl
def QmSq (Z : State) (p1 : Int32) (p2 : Int32) (z : Int64) (h0 : Heap) (n0 : Nat) (v : Option Value) (h : Heap) (L : List Loc) : Prop := v = some (.long z) ∧ Fr n0 L ∧ h = h0
set_option maxRecDepth 65536 in
set_option maxHeartbeats 40000000 in
theorem rmSq (l : Launch) (Z : State) (a0 : Array Value) (hw : ∀ d ∈ tables_1, d.before a0 Z = true) (ws : List Jvm.Cond) (p1 : Int32) (p2 : Int32) (z : Int64) (h0 : Heap) (n0 : Nat) (Z0 : n0 ≤ h0.size) (hz : (p1 = 0 ∧ z = 0) ∨ (¬ p1 = 0 ∧ z = (p2.toInt64 * p2.toInt64))) :
    MetFree l (⟨"org/rowfold/aggregate/MomentsCombinePinLaw", "sqr", "(ZI)J"⟩ : MethodName) (head1 (Jvm.Cond.code (⟨"org/rowfold/aggregate/MomentsCombinePinLaw", "sqr", "(ZI)J"⟩ : MethodName) method_4_code 2 (some .long) :: ws) ({ frames := 0, cells := 0, slots := 0, locals := 0 } : Room)) (fun a U => a = #[(.int p1), (.int p2)] ∧ Z.Warmed39 U.vm ∧ U.heap = h0) (fun _ _ _ _ _ => True) (fun _ U o U' => ∃ v L, o = .returned v ∧ QmSq Z p1 p2 z h0 n0 v U'.heap L ∧ FrameEnd U o U' L ({ frames := 0, cells := 0, slots := 0, locals := 0 } : Room).cells ({ frames := 0, cells := 0, slots := 0, locals := 0 } : Room).slots) := by
  refine MetFree.of_bodySF (plainFor_of_name pn_6) hisR ?_
  intro p e s m args below meth c s₁ Bd hml0 hP hK
  obtain ⟨rfl, hZ, hh⟩ := hP
  have hx := Bd.exec
  have hby := Bd.bytes
  have hml : c.maxLocals = 2 := hml0
  have hown : s.vm.findClass "org/rowfold/aggregate/MomentsCombinePinLaw" = some m.cls := findClass_of_methodNamed Bd.named
  have hnm := (name_of_methodNamed Bd.named Bd.method).1
  have X0 : Stand p l e ({ frames := 0, cells := 0, slots := 0, locals := 0 } : Room) s m #[(.int p1), (.int p2)] below meth c s₁ [] 0 0 := Stand.of_body Bd
  have e0 : s₁.heap = h0 := by rw [← hh, Bd.state]; rfl
  have N0 := Fr.nil n0
  have pre0 : ∀ t, Steps p.tables e below (s₁.setTop (mkF m 0 #[.val (.int p1), .val (.int p2)] [])) t → Steps p.tables e below (s₁.setTop (entryFrame m #[(.int p1), (.int p2)] 2)) t := fun t_ k_ => castTop (ef_6 m p1 p2) k_
  obtain ⟨S0, hS0⟩ : ∃ z, z = s₁.setTop (mkF m 0 #[.val (.int p1), .val (.int p2)] []) := ⟨_, rfl⟩
  have r0 : Steps p.tables e below S0 (s₁.setTop (mkF m 0 #[.val (.int p1), .val (.int p2)] [])) := by rw [hS0]; exact Steps.refl _
  have r76 : Steps p.tables e below S0 (s₁.setTop (mkF m 1 #[.val (.int p1), .val (.int p2)] [(.int p1)])) := by
    refine r0.trans ?_
    show Steps p.tables e below (s₁.setTop (mkF m 0 #[.val (.int p1), .val (.int p2)] [])) _
    refine XS.iloadN X0.here hx rfl (hb hby d6_0) rfl ?_
    exact Steps.refl _
  rcases hz with ⟨h1, h2⟩ | ⟨h1, h2⟩
  · skip
    have r77 : Steps p.tables e below S0 (s₁.setTop (mkF m 13 #[.val (.int p1), .val (.int p2)] [(.long (0 : Int64))])) := by
      refine r76.trans ?_
      show Steps p.tables e below (s₁.setTop (mkF m 1 #[.val (.int p1), .val (.int p2)] [(.int p1)])) _
      refine XS.ifYes X0.here hx rfl (pc0 := 1) (pc' := 12) rfl (hb hby d6_1) rfl ((if0 _ _).trans (teq h1).1) (by decide) (by decide) ?_
      refine XS.lconst X0.here hx rfl (hb hby d6_12) ?_
      exact Steps.refl _
    obtain ⟨fs, hr, hrun, hended, hW, hsame⟩ := X0.leave (v := some (.long (0 : Int64))) (fun h => by rw [Bd.returns] at h; cases h)
    refine ⟨_, _, pre0 _ ?_, hrun, hended, _, _, rfl, ?_, ⟨_, rfl⟩, hW, hsame.mono (by decide) (by decide)⟩
    · rw [← hS0]
      refine r77.trans ?_
      show Steps p.tables e below (s₁.setTop (mkF m 13 #[.val (.int p1), .val (.int p2)] [(.long (0 : Int64))])) _
      jvm_step X0.here [X0.here.top, hx, (hb hby d6_13), X0.method', Bd.returns, narrow]
      first | (intro acts; rw [hr _ acts rfl rfl rfl]) | rw [hr _ _ rfl rfl rfl]
      exact Steps.refl _
    · exact ⟨by rw [h2], N0, e0⟩
  · skip
    have r78 : Steps p.tables e below S0 (s₁.setTop (mkF m 13 #[.val (.int p1), .val (.int p2)] [(.long ((p2.toInt64) * (p2.toInt64)))])) := by
      refine r76.trans ?_
      show Steps p.tables e below (s₁.setTop (mkF m 1 #[.val (.int p1), .val (.int p2)] [(.int p1)])) _
      refine XS.ifNo X0.here hx rfl (hb hby d6_1) rfl ((if0 _ _).trans (feq h1).1) ?_
      refine XS.iloadN X0.here hx rfl (hb hby d6_4) rfl ?_
      refine XS.i2l X0.here hx rfl (hb hby d6_5) rfl ?_
      show Steps p.tables e below (s₁.setTop (mkF m 6 #[.val (.int p1), .val (.int p2)] [(.long (p2.toInt64))])) _
      refine XS.iloadN X0.here hx rfl (hb hby d6_6) rfl ?_
      refine XS.i2l X0.here hx rfl (hb hby d6_7) rfl ?_
      refine XS.lmul X0.here hx rfl (hb hby d6_8) rfl ?_
      show Steps p.tables e below (s₁.setTop (mkF m 9 #[.val (.int p1), .val (.int p2)] [(.long ((p2.toInt64) * (p2.toInt64)))])) _
      refine XS.goto X0.here hx rfl (pc0 := 9) (pc' := 13) rfl (hb hby d6_9) (by decide) (by decide) ?_
      exact Steps.refl _
    obtain ⟨fs, hr, hrun, hended, hW, hsame⟩ := X0.leave (v := some (.long ((p2.toInt64) * (p2.toInt64)))) (fun h => by rw [Bd.returns] at h; cases h)
    refine ⟨_, _, pre0 _ ?_, hrun, hended, _, _, rfl, ?_, ⟨_, rfl⟩, hW, hsame.mono (by decide) (by decide)⟩
    · rw [← hS0]
      refine r78.trans ?_
      show Steps p.tables e below (s₁.setTop (mkF m 13 #[.val (.int p1), .val (.int p2)] [(.long ((p2.toInt64) * (p2.toInt64)))])) _
      jvm_step X0.here [X0.here.top, hx, (hb hby d6_13), X0.method', Bd.returns, narrow]
      first | (intro acts; rw [hr _ acts rfl rfl rfl]) | rw [hr _ _ rfl rfl rfl]
      exact Steps.refl _
    · exact ⟨by rw [h2], N0, e0⟩
theorem pn_4 : plainName "org/rowfold/aggregate/Moments" = true := by first | (simp [plainName, overriddenIn]; done) | decide +kernel
theorem ef_4 (m : MethodId) (x0 : Addr) (x1 : Addr) : entryFrame m #[(.ref x0), (.ref x1)] 6 = mkF m 0 #[.val (.ref x0), .val (.ref x1), .unset, .unset, .unset, .unset] [] := by first | (simp [entryFrame, mkF, argsToLocals, Value.category]; done) | rfl
def QmC0 (Z : State) (a1 : Addr) (a2 : Addr) (c2 : Int64) (h0 : Heap) (n0 : Nat) (v : Option Value) (h : Heap) (L : List Loc) : Prop := v = some (.ref a1) ∧ Fr n0 L ∧ h = h0
set_option maxRecDepth 65536 in
set_option maxHeartbeats 40000000 in
theorem rmC0 (l : Launch) (Z : State) (a0 : Array Value) (hw : ∀ d ∈ tables_1, d.before a0 Z = true) (ws : List Jvm.Cond) (a1 : Addr) (a2 : Addr) (c2 : Int64) (h0 : Heap) (n0 : Nat) (Z0 : n0 ≤ h0.size) (Fc2 : Fld Z h0 a2 "org/rowfold/aggregate/Moments" "count" "J" (.long c2)) (hc : c2.toInt = 0) :
    MetFree l (⟨"org/rowfold/aggregate/Moments", "combine", "(Lorg/rowfold/aggregate/Moments;)Lorg/rowfold/aggregate/Moments;"⟩ : MethodName) (head1 (Jvm.Cond.code (⟨"org/rowfold/aggregate/Moments", "combine", "(Lorg/rowfold/aggregate/Moments;)Lorg/rowfold/aggregate/Moments;"⟩ : MethodName) prog_6_method_3_code 6 (some (.object "org/rowfold/aggregate/Moments")) :: ws) ({ frames := 0, cells := 0, slots := 0, locals := 0 } : Room)) (fun a U => a = #[(.ref a1), (.ref a2)] ∧ Z.Warmed39 U.vm ∧ U.heap = h0) (fun _ _ _ _ _ => True) (fun _ U o U' => ∃ v L, o = .returned v ∧ QmC0 Z a1 a2 c2 h0 n0 v U'.heap L ∧ FrameEnd U o U' L ({ frames := 0, cells := 0, slots := 0, locals := 0 } : Room).cells ({ frames := 0, cells := 0, slots := 0, locals := 0 } : Room).slots) := by
  refine MetFree.of_bodySF (plainFor_of_name pn_4) hisR ?_
  intro p e s m args below meth c s₁ Bd hml0 hP hK
  obtain ⟨rfl, hZ, hh⟩ := hP
  have hx := Bd.exec
  have hby := Bd.bytes
  have hml : c.maxLocals = 6 := hml0
  have hown : s.vm.findClass "org/rowfold/aggregate/Moments" = some m.cls := findClass_of_methodNamed Bd.named
  have hnm := (name_of_methodNamed Bd.named Bd.method).1
  have X0 : Stand p l e ({ frames := 0, cells := 0, slots := 0, locals := 0 } : Room) s m #[(.ref a1), (.ref a2)] below meth c s₁ [] 0 0 := Stand.of_body Bd
  have e0 : s₁.heap = h0 := by rw [← hh, Bd.state]; rfl
  have N0 := Fr.nil n0
  have pre0 : ∀ t, Steps p.tables e below (s₁.setTop (mkF m 0 #[.val (.ref a1), .val (.ref a2), .unset, .unset, .unset, .unset] [])) t → Steps p.tables e below (s₁.setTop (entryFrame m #[(.ref a1), (.ref a2)] 6)) t := fun t_ k_ => castTop (ef_4 m a1 a2) k_
  obtain ⟨S0, hS0⟩ : ∃ z, z = s₁.setTop (mkF m 0 #[.val (.ref a1), .val (.ref a2), .unset, .unset, .unset, .unset] []) := ⟨_, rfl⟩
  have r0 : Steps p.tables e below S0 (s₁.setTop (mkF m 0 #[.val (.ref a1), .val (.ref a2), .unset, .unset, .unset, .unset] [])) := by rw [hS0]; exact Steps.refl _
  have hz : c2 = 0 := Int64.toInt_inj.mp hc
  have r79 : Steps p.tables e below S0 (s₁.setTop (mkF m 1 #[.val (.ref a1), .val (.ref a2), .unset, .unset, .unset, .unset] [(.ref a2)])) := by
    refine r0.trans ?_
    show Steps p.tables e below (s₁.setTop (mkF m 0 #[.val (.ref a1), .val (.ref a2), .unset, .unset, .unset, .unset] [])) _
    refine XS.aloadN X0.here hx rfl (hb hby d4_0) rfl rfl ?_
    exact Steps.refl _
  obtain ⟨T80, X80, e80, st80⟩ := getF X0 hx hZ hown (host := "") (Or.inl (hw _ (List.mem_of_getElem? (i := 20) rfl))) Via.refl e0 Fc2 (g := (mkF m 1 #[.val (.ref a1), .val (.ref a2), .unset, .unset, .unset, .unset] [(.ref a2)])) rfl rfl (hb hby d4_1)
  have r81 : Steps p.tables e below S0 (T80.setTop (mkF m 4 #[.val (.ref a1), .val (.ref a2), .unset, .unset, .unset, .unset] [(.long c2)])) := r79.trans (st80 _ (Steps.refl _))
  have r82 : Steps p.tables e below S0 (T80.setTop (mkF m 10 #[.val (.ref a1), .val (.ref a2), .unset, .unset, .unset, .unset] [(.ref a1)])) := by
    refine r81.trans ?_
    show Steps p.tables e below (T80.setTop (mkF m 4 #[.val (.ref a1), .val (.ref a2), .unset, .unset, .unset, .unset] [(.long c2)])) _
    refine XS.lconst X80.here hx rfl (hb hby d4_4) ?_
    refine XS.lcmp X80.here hx rfl (hb hby d4_5) rfl ?_
    refine XS.ifNo X80.here hx rfl (hb hby d4_6) rfl ((if0 _ _).trans (teq ((lw_eq _ _).mpr hz)).2) ?_
    show Steps p.tables e below (T80.setTop (mkF m 9 #[.val (.ref a1), .val (.ref a2), .unset, .unset, .unset, .unset] [])) _
    refine XS.aloadN X80.here hx rfl (hb hby d4_9) rfl rfl ?_
    exact Steps.refl _
  obtain ⟨fs, hr, hrun, hended, hW, hsame⟩ := X80.leave (v := some (.ref a1)) (fun h => by rw [Bd.returns] at h; cases h)
  refine ⟨_, _, pre0 _ ?_, hrun, hended, _, _, rfl, ?_, ⟨_, rfl⟩, hW, hsame.mono (by decide) (by decide)⟩
  · rw [← hS0]
    refine r82.trans ?_
    show Steps p.tables e below (T80.setTop (mkF m 10 #[.val (.ref a1), .val (.ref a2), .unset, .unset, .unset, .unset] [(.ref a1)])) _
    jvm_step X80.here [X80.here.top, hx, (hb hby d4_10), X80.method', Bd.returns, Value.isRef, FieldType.isReference]
    first | (intro acts; rw [hr _ acts rfl rfl rfl]) | rw [hr _ _ rfl rfl rfl]
    exact Steps.refl _
  · exact ⟨rfl, N0, e80⟩
def QmC1 (Z : State) (a1 : Addr) (a2 : Addr) (c1 : Int64) (m1 : UInt64) (s1 : UInt64) (c2 : Int64) (m2 : UInt64) (s2 : UInt64) (mm : UInt64) (ss : UInt64) (h0 : Heap) (n0 : Nat) (v : Option Value) (h : Heap) (L : List Loc) : Prop := v = some (.ref a1) ∧ Fr n0 L ∧ Keep h0 h [a1] ∧ Exa Z h a1 "org/rowfold/aggregate/Moments" ∧ Fld Z h a1 "org/rowfold/aggregate/Moments" "count" "J" (.long (c1 + c2)) ∧ Fld Z h a1 "org/rowfold/aggregate/Moments" "mean" "D" (.double mm) ∧ Fld Z h a1 "org/rowfold/aggregate/Moments" "squares" "D" (.double ss)
set_option maxRecDepth 65536 in
set_option maxHeartbeats 40000000 in
theorem rmC1 (l : Launch) (Z : State) (a0 : Array Value) (hw : ∀ d ∈ tables_1, d.before a0 Z = true) (ws : List Jvm.Cond) (a1 : Addr) (a2 : Addr) (c1 : Int64) (m1 : UInt64) (s1 : UInt64) (c2 : Int64) (m2 : UInt64) (s2 : UInt64) (mm : UInt64) (ss : UInt64) (h0 : Heap) (n0 : Nat) (Z0 : n0 ≤ h0.size) (Fc1 : Fld Z h0 a1 "org/rowfold/aggregate/Moments" "count" "J" (.long c1)) (Fm1 : Fld Z h0 a1 "org/rowfold/aggregate/Moments" "mean" "D" (.double m1)) (Fs1 : Fld Z h0 a1 "org/rowfold/aggregate/Moments" "squares" "D" (.double s1)) (Fc2 : Fld Z h0 a2 "org/rowfold/aggregate/Moments" "count" "J" (.long c2)) (Fm2 : Fld Z h0 a2 "org/rowfold/aggregate/Moments" "mean" "D" (.double m2)) (Fs2 : Fld Z h0 a2 "org/rowfold/aggregate/Moments" "squares" "D" (.double s2)) (Ea1 : Exa Z h0 a1 "org/rowfold/aggregate/Moments") (g_a1 : n0 ≤ a1) (q12 : a1 ≠ a2) (hc : ¬ c2.toInt = 0) (hC : CombS c1 m1 s1 c2 m2 s2 (c1 + c2) mm ss) :
    MetFree l (⟨"org/rowfold/aggregate/Moments", "combine", "(Lorg/rowfold/aggregate/Moments;)Lorg/rowfold/aggregate/Moments;"⟩ : MethodName) (head1 (Jvm.Cond.code (⟨"org/rowfold/aggregate/Moments", "combine", "(Lorg/rowfold/aggregate/Moments;)Lorg/rowfold/aggregate/Moments;"⟩ : MethodName) prog_6_method_3_code 6 (some (.object "org/rowfold/aggregate/Moments")) :: ws) ({ frames := 0, cells := 0, slots := 0, locals := 0 } : Room)) (fun a U => a = #[(.ref a1), (.ref a2)] ∧ Z.Warmed39 U.vm ∧ U.heap = h0) (fun _ _ _ _ _ => True) (fun _ U o U' => ∃ v L, o = .returned v ∧ QmC1 Z a1 a2 c1 m1 s1 c2 m2 s2 mm ss h0 n0 v U'.heap L ∧ FrameEnd U o U' L ({ frames := 0, cells := 0, slots := 0, locals := 0 } : Room).cells ({ frames := 0, cells := 0, slots := 0, locals := 0 } : Room).slots) := by
  refine MetFree.of_bodySF (plainFor_of_name pn_4) hisR ?_
  intro p e s m args below meth c s₁ Bd hml0 hP hK
  obtain ⟨rfl, hZ, hh⟩ := hP
  have hx := Bd.exec
  have hby := Bd.bytes
  have hml : c.maxLocals = 6 := hml0
  have hown : s.vm.findClass "org/rowfold/aggregate/Moments" = some m.cls := findClass_of_methodNamed Bd.named
  have hnm := (name_of_methodNamed Bd.named Bd.method).1
  have X0 : Stand p l e ({ frames := 0, cells := 0, slots := 0, locals := 0 } : Room) s m #[(.ref a1), (.ref a2)] below meth c s₁ [] 0 0 := Stand.of_body Bd
  have e0 : s₁.heap = h0 := by rw [← hh, Bd.state]; rfl
  have N0 := Fr.nil n0
  have pre0 : ∀ t, Steps p.tables e below (s₁.setTop (mkF m 0 #[.val (.ref a1), .val (.ref a2), .unset, .unset, .unset, .unset] [])) t → Steps p.tables e below (s₁.setTop (entryFrame m #[(.ref a1), (.ref a2)] 6)) t := fun t_ k_ => castTop (ef_4 m a1 a2) k_
  obtain ⟨S0, hS0⟩ : ∃ z, z = s₁.setTop (mkF m 0 #[.val (.ref a1), .val (.ref a2), .unset, .unset, .unset, .unset] []) := ⟨_, rfl⟩
  have r0 : Steps p.tables e below S0 (s₁.setTop (mkF m 0 #[.val (.ref a1), .val (.ref a2), .unset, .unset, .unset, .unset] [])) := by rw [hS0]; exact Steps.refl _
  obtain ⟨d1, d2, d3, d4, d5, d6, d7, d8, fe1, fn1, fe2, fn2, fe3, fn3, em, nm_, fe4, fn4, fe5, fn5, fe6, fn6, fe7, fn7, fe8, fn8, es, ns⟩ := hC
  have K0 := Keep.refl h0 [a1]
  have hz : ¬ c2 = 0 := fun z => hc (by rw [z]; decide)
  have r83 : Steps p.tables e below S0 (s₁.setTop (mkF m 1 #[.val (.ref a1), .val (.ref a2), .unset, .unset, .unset, .unset] [(.ref a2)])) := by
    refine r0.trans ?_
    show Steps p.tables e below (s₁.setTop (mkF m 0 #[.val (.ref a1), .val (.ref a2), .unset, .unset, .unset, .unset] [])) _
    refine XS.aloadN X0.here hx rfl (hb hby d4_0) rfl rfl ?_
    exact Steps.refl _
  obtain ⟨T84, X84, e84, st84⟩ := getF X0 hx hZ hown (host := "") (Or.inl (hw _ (List.mem_of_getElem? (i := 20) rfl))) Via.refl e0 Fc2 (g := (mkF m 1 #[.val (.ref a1), .val (.ref a2), .unset, .unset, .unset, .unset] [(.ref a2)])) rfl rfl (hb hby d4_1)
  have r85 : Steps p.tables e below S0 (T84.setTop (mkF m 4 #[.val (.ref a1), .val (.ref a2), .unset, .unset, .unset, .unset] [(.long c2)])) := r83.trans (st84 _ (Steps.refl _))
  have r86 : Steps p.tables e below S0 (T84.setTop (mkF m 12 #[.val (.ref a1), .val (.ref a2), .unset, .unset, .unset, .unset] [(.ref a1)])) := by
    refine r85.trans ?_
    show Steps p.tables e below (T84.setTop (mkF m 4 #[.val (.ref a1), .val (.ref a2), .unset, .unset, .unset, .unset] [(.long c2)])) _
    refine XS.lconst X84.here hx rfl (hb hby d4_4) ?_
    refine XS.lcmp X84.here hx rfl (hb hby d4_5) rfl ?_
    refine XS.ifYes X84.here hx rfl (pc0 := 6) (pc' := 11) rfl (hb hby d4_6) rfl ((if0 _ _).trans (feq (fun z => hz ((lw_eq _ _).mp z))).2) (by decide) (by decide) ?_
    show Steps p.tables e below (T84.setTop (mkF m 11 #[.val (.ref a1), .val (.ref a2), .unset, .unset, .unset, .unset] [])) _
    refine XS.aloadN X84.here hx rfl (hb hby d4_11) rfl rfl ?_
    exact Steps.refl _
  obtain ⟨T87, X87, e87, st87⟩ := getF X84 hx hZ hown (host := "") (Or.inl (hw _ (List.mem_of_getElem? (i := 20) rfl))) Via.refl e84 Fc1 (g := (mkF m 12 #[.val (.ref a1), .val (.ref a2), .unset, .unset, .unset, .unset] [(.ref a1)])) rfl rfl (hb hby d4_12)
  have r88 : Steps p.tables e below S0 (T87.setTop (mkF m 15 #[.val (.ref a1), .val (.ref a2), .unset, .unset, .unset, .unset] [(.long c1)])) := r86.trans (st87 _ (Steps.refl _))
  have r89 : Steps p.tables e below S0 (T87.setTop (mkF m 16 #[.val (.ref a1), .val (.ref a2), .unset, .unset, .unset, .unset] [(.ref a2), (.long c1)])) := by
    refine r88.trans ?_
    show Steps p.tables e below (T87.setTop (mkF m 15 #[.val (.ref a1), .val (.ref a2), .unset, .unset, .unset, .unset] [(.long c1)])) _
    refine XS.aloadN X87.here hx rfl (hb hby d4_15) rfl rfl ?_
    exact Steps.refl _
  obtain ⟨T90, X90, e90, st90⟩ := getF X87 hx hZ hown (host := "") (Or.inl (hw _ (List.mem_of_getElem? (i := 20) rfl))) Via.refl e87 Fc2 (g := (mkF m 16 #[.val (.ref a1), .val (.ref a2), .unset, .unset, .unset, .unset] [(.ref a2), (.long c1)])) rfl rfl (hb hby d4_16)
  have r91 : Steps p.tables e below S0 (T90.setTop (mkF m 19 #[.val (.ref a1), .val (.ref a2), .unset, .unset, .unset, .unset] [(.long c2), (.long c1)])) := r89.trans (st90 _ (Steps.refl _))
  have r92 : Steps p.tables e below S0 (T90.setTop (mkF m 22 #[.val (.ref a1), .val (.ref a2), .val (.long (c1 + c2)), .second, .unset, .unset] [(.ref a2)])) := by
    refine r91.trans ?_
    show Steps p.tables e below (T90.setTop (mkF m 19 #[.val (.ref a1), .val (.ref a2), .unset, .unset, .unset, .unset] [(.long c2), (.long c1)])) _
    refine XS.ladd X90.here hx rfl (hb hby d4_19) rfl ?_
    refine XS.lstoreN X90.here hx rfl (hb hby d4_20) rfl (l' := #[.val (.ref a1), .val (.ref a2), .val (.long (c1 + c2)), .second, .unset, .unset]) rfl ?_
    refine XS.aloadN X90.here hx rfl (hb hby d4_21) rfl rfl ?_
    exact Steps.refl _
  obtain ⟨T93, X93, e93, st93⟩ := getF X90 hx hZ hown (host := "") (Or.inl (hw _ (List.mem_of_getElem? (i := 50) rfl))) Via.refl e90 Fm2 (g := (mkF m 22 #[.val (.ref a1), .val (.ref a2), .val (.long (c1 + c2)), .second, .unset, .unset] [(.ref a2)])) rfl rfl (hb hby d4_22)
  have r94 : Steps p.tables e below S0 (T93.setTop (mkF m 25 #[.val (.ref a1), .val (.ref a2), .val (.long (c1 + c2)), .second, .unset, .unset] [(.double m2)])) := r92.trans (st93 _ (Steps.refl _))
  have r95 : Steps p.tables e below S0 (T93.setTop (mkF m 26 #[.val (.ref a1), .val (.ref a2), .val (.long (c1 + c2)), .second, .unset, .unset] [(.ref a1), (.double m2)])) := by
    refine r94.trans ?_
    show Steps p.tables e below (T93.setTop (mkF m 25 #[.val (.ref a1), .val (.ref a2), .val (.long (c1 + c2)), .second, .unset, .unset] [(.double m2)])) _
    refine XS.aloadN X93.here hx rfl (hb hby d4_25) rfl rfl ?_
    exact Steps.refl _
  obtain ⟨T96, X96, e96, st96⟩ := getF X93 hx hZ hown (host := "") (Or.inl (hw _ (List.mem_of_getElem? (i := 50) rfl))) Via.refl e93 Fm1 (g := (mkF m 26 #[.val (.ref a1), .val (.ref a2), .val (.long (c1 + c2)), .second, .unset, .unset] [(.ref a1), (.double m2)])) rfl rfl (hb hby d4_26)
  have r97 : Steps p.tables e below S0 (T96.setTop (mkF m 29 #[.val (.ref a1), .val (.ref a2), .val (.long (c1 + c2)), .second, .unset, .unset] [(.double m1), (.double m2)])) := r95.trans (st96 _ (Steps.refl _))
  have r98 : Steps p.tables e below S0 (T96.setTop (mkF m 34 #[.val (.ref a1), .val (.ref a2), .val (.long (c1 + c2)), .second, .val (.double d1), .second] [(.ref a1), (.ref a1)])) := by
    refine r97.trans ?_
    show Steps p.tables e below (T96.setTop (mkF m 29 #[.val (.ref a1), .val (.ref a2), .val (.long (c1 + c2)), .second, .unset, .unset] [(.double m1), (.double m2)])) _
    refine XS.dsubS X96.here hx rfl (hb hby d4_29) rfl (by rw [fe1]; exact fn1) fe1 ?_
    refine XS.dstore X96.here hx rfl (hb hby d4_30) rfl (l' := #[.val (.ref a1), .val (.ref a2), .val (.long (c1 + c2)), .second, .val (.double d1), .second]) rfl ?_
    refine XS.aloadN X96.here hx rfl (hb hby d4_32) rfl rfl ?_
    show Steps p.tables e below (T96.setTop (mkF m 33 #[.val (.ref a1), .val (.ref a2), .val (.long (c1 + c2)), .second, .val (.double d1), .second] [(.ref a1)])) _
    refine XS.dup X96.here hx rfl (hb hby d4_33) rfl rfl ?_
    exact Steps.refl _
  obtain ⟨T99, X99, e99, st99⟩ := getF X96 hx hZ hown (host := "") (Or.inl (hw _ (List.mem_of_getElem? (i := 50) rfl))) Via.refl e96 Fm1 (g := (mkF m 34 #[.val (.ref a1), .val (.ref a2), .val (.long (c1 + c2)), .second, .val (.double d1), .second] [(.ref a1), (.ref a1)])) rfl rfl (hb hby d4_34)
  have r100 : Steps p.tables e below S0 (T99.setTop (mkF m 37 #[.val (.ref a1), .val (.ref a2), .val (.long (c1 + c2)), .second, .val (.double d1), .second] [(.double m1), (.ref a1)])) := r98.trans (st99 _ (Steps.refl _))
  have r101 : Steps p.tables e below S0 (T99.setTop (mkF m 40 #[.val (.ref a1), .val (.ref a2), .val (.long (c1 + c2)), .second, .val (.double d1), .second] [(.ref a2), (.double d1), (.double m1), (.ref a1)])) := by
    refine r100.trans ?_
    show Steps p.tables e below (T99.setTop (mkF m 37 #[.val (.ref a1), .val (.ref a2), .val (.long (c1 + c2)), .second, .val (.double d1), .second] [(.double m1), (.ref a1)])) _
    refine XS.dload X99.here hx rfl (hb hby d4_37) rfl ?_
    refine XS.aloadN X99.here hx rfl (hb hby d4_39) rfl rfl ?_
    exact Steps.refl _
  obtain ⟨T102, X102, e102, st102⟩ := getF X99 hx hZ hown (host := "") (Or.inl (hw _ (List.mem_of_getElem? (i := 20) rfl))) Via.refl e99 Fc2 (g := (mkF m 40 #[.val (.ref a1), .val (.ref a2), .val (.long (c1 + c2)), .second, .val (.double d1), .second] [(.ref a2), (.double d1), (.double m1), (.ref a1)])) rfl rfl (hb hby d4_40)
  have r103 : Steps p.tables e below S0 (T102.setTop (mkF m 43 #[.val (.ref a1), .val (.ref a2), .val (.long (c1 + c2)), .second, .val (.double d1), .second] [(.long c2), (.double d1), (.double m1), (.ref a1)])) := r101.trans (st102 _ (Steps.refl _))
  have r104 : Steps p.tables e below S0 (T102.setTop (mkF m 49 #[.val (.ref a1), .val (.ref a2), .val (.long (c1 + c2)), .second, .val (.double d1), .second] [(.double mm), (.ref a1)])) := by
    refine r103.trans ?_
    show Steps p.tables e below (T102.setTop (mkF m 43 #[.val (.ref a1), .val (.ref a2), .val (.long (c1 + c2)), .second, .val (.double d1), .second] [(.long c2), (.double d1), (.double m1), (.ref a1)])) _
    refine XS.l2dS X102.here hx rfl (hb hby d4_43) rfl rfl ?_
    refine XS.dmulS X102.here hx rfl (hb hby d4_44) rfl (by rw [fe2]; exact fn2) fe2 ?_
    refine XS.lloadN X102.here hx rfl (hb hby d4_45) rfl ?_
    show Steps p.tables e below (T102.setTop (mkF m 46 #[.val (.ref a1), .val (.ref a2), .val (.long (c1 + c2)), .second, .val (.double d1), .second] [(.long (c1 + c2)), (.double d2), (.double m1), (.ref a1)])) _
    refine XS.l2dS X102.here hx rfl (hb hby d4_46) rfl rfl ?_
    refine XS.ddivS X102.here hx rfl (hb hby d4_47) rfl (by rw [fe3]; exact fn3) fe3 ?_
    refine XS.daddS X102.here hx rfl (hb hby d4_48) rfl (by rw [em]; exact nm_) em ?_
    exact Steps.refl _
  obtain ⟨T105, h105, X105, e105, W105, st105⟩ := putF X102 hx hZ hown (host := "") (Or.inl (hw _ (List.mem_of_getElem? (i := 50) rfl))) Via.refl e102 Fm1 Ea1 (Or.inl (hw _ (List.mem_of_getElem? (i := 51) rfl))) (hw _ (List.mem_of_getElem? (i := 7) rfl)) (ty := .double) (by decide) rfl rfl (g := (mkF m 49 #[.val (.ref a1), .val (.ref a2), .val (.long (c1 + c2)), .second, .val (.double d1), .second] [(.double mm), (.ref a1)])) rfl rfl (hb hby d4_49)
  have N105 := Fr.snoc X105 N0 g_a1
  have F105_a1_count := Fc1.other W105 (Or.inr (slot_ne (a0 := a0) (Or.inl (hw _ (List.mem_of_getElem? (i := 21) rfl))) (Or.inl (hw _ (List.mem_of_getElem? (i := 51) rfl))) (by decide) (t := .long) (t' := .double) (by decide) (by decide)))
  have F105_a1_mean := Fm1.same W105
  have F105_a1_squares := Fs1.other W105 (Or.inr (slot_ne (a0 := a0) (Or.inl (hw _ (List.mem_of_getElem? (i := 53) rfl))) (Or.inl (hw _ (List.mem_of_getElem? (i := 51) rfl))) (by decide) (t := .double) (t' := .double) (by decide) (by decide)))
  have F105_a2_count := Fc2.other W105 (Or.inl (Ne.symm q12))
  have F105_a2_mean := Fm2.other W105 (Or.inl (Ne.symm q12))
  have F105_a2_squares := Fs2.other W105 (Or.inl (Ne.symm q12))
  have E105_a1 := Ea1.wr W105
  have Z105 : n0 ≤ h105.size := Nat.le_trans Z0 (Nat.le_of_eq W105.size.symm)
  have K105 := K0.wr W105 (Or.inl (List.mem_of_getElem? (i := 0) rfl))
  have r106 : Steps p.tables e below S0 (T105.setTop (mkF m 52 #[.val (.ref a1), .val (.ref a2), .val (.long (c1 + c2)), .second, .val (.double d1), .second] [])) := r104.trans (st105 _ (Steps.refl _))
  have r107 : Steps p.tables e below S0 (T105.setTop (mkF m 54 #[.val (.ref a1), .val (.ref a2), .val (.long (c1 + c2)), .second, .val (.double d1), .second] [(.ref a1), (.ref a1)])) := by
    refine r106.trans ?_
    show Steps p.tables e below (T105.setTop (mkF m 52 #[.val (.ref a1), .val (.ref a2), .val (.long (c1 + c2)), .second, .val (.double d1), .second] [])) _
    refine XS.aloadN X105.here hx rfl (hb hby d4_52) rfl rfl ?_
    refine XS.dup X105.here hx rfl (hb hby d4_53) rfl rfl ?_
    exact Steps.refl _
  obtain ⟨T108, X108, e108, st108⟩ := getF X105 hx hZ hown (host := "") (Or.inl (hw _ (List.mem_of_getElem? (i := 52) rfl))) Via.refl e105 F105_a1_squares (g := (mkF m 54 #[.val (.ref a1), .val (.ref a2), .val (.long (c1 + c2)), .second, .val (.double d1), .second] [(.ref a1), (.ref a1)])) rfl rfl (hb hby d4_54)
  have r109 : Steps p.tables e below S0 (T108.setTop (mkF m 57 #[.val (.ref a1), .val (.ref a2), .val (.long (c1 + c2)), .second, .val (.double d1), .second] [(.double s1), (.ref a1)])) := r107.trans (st108 _ (Steps.refl _))
  have r110 : Steps p.tables e below S0 (T108.setTop (mkF m 58 #[.val (.ref a1), .val (.ref a2), .val (.long (c1 + c2)), .second, .val (.double d1), .second] [(.ref a2), (.double s1), (.ref a1)])) := by
    refine r109.trans ?_
    show Steps p.tables e below (T108.setTop (mkF m 57 #[.val (.ref a1), .val (.ref a2), .val (.long (c1 + c2)), .second, .val (.double d1), .second] [(.double s1), (.ref a1)])) _
    refine XS.aloadN X108.here hx rfl (hb hby d4_57) rfl rfl ?_
    exact Steps.refl _
  obtain ⟨T111, X111, e111, st111⟩ := getF X108 hx hZ hown (host := "") (Or.inl (hw _ (List.mem_of_getElem? (i := 52) rfl))) Via.refl e108 F105_a2_squares (g := (mkF m 58 #[.val (.ref a1), .val (.ref a2), .val (.long (c1 + c2)), .second, .val (.double d1), .second] [(.ref a2), (.double s1), (.ref a1)])) rfl rfl (hb hby d4_58)
  have r112 : Steps p.tables e below S0 (T111.setTop (mkF m 61 #[.val (.ref a1), .val (.ref a2), .val (.long (c1 + c2)), .second, .val (.double d1), .second] [(.double s2), (.double s1), (.ref a1)])) := r110.trans (st111 _ (Steps.refl _))
  have r113 : Steps p.tables e below S0 (T111.setTop (mkF m 67 #[.val (.ref a1), .val (.ref a2), .val (.long (c1 + c2)), .second, .val (.double d1), .second] [(.ref a1), (.double d4), (.double s2), (.double s1), (.ref a1)])) := by
    refine r112.trans ?_
    show Steps p.tables e below (T111.setTop (mkF m 61 #[.val (.ref a1), .val (.ref a2), .val (.long (c1 + c2)), .second, .val (.double d1), .second] [(.double s2), (.double s1), (.ref a1)])) _
    refine XS.dload X111.here hx rfl (hb hby d4_61) rfl ?_
    refine XS.dload X111.here hx rfl (hb hby d4_63) rfl ?_
    refine XS.dmulS X111.here hx rfl (hb hby d4_65) rfl (by rw [fe4]; exact fn4) fe4 ?_
    show Steps p.tables e below (T111.setTop (mkF m 66 #[.val (.ref a1), .val (.ref a2), .val (.long (c1 + c2)), .second, .val (.double d1), .second] [(.double d4), (.double s2), (.double s1), (.ref a1)])) _
    refine XS.aloadN X111.here hx rfl (hb hby d4_66) rfl rfl ?_
    exact Steps.refl _
  obtain ⟨T114, X114, e114, st114⟩ := getF X111 hx hZ hown (host := "") (Or.inl (hw _ (List.mem_of_getElem? (i := 20) rfl))) Via.refl e111 F105_a1_count (g := (mkF m 67 #[.val (.ref a1), .val (.ref a2), .val (.long (c1 + c2)), .second, .val (.double d1), .second] [(.ref a1), (.double d4), (.double s2), (.double s1), (.ref a1)])) rfl rfl (hb hby d4_67)
  have r115 : Steps p.tables e below S0 (T114.setTop (mkF m 70 #[.val (.ref a1), .val (.ref a2), .val (.long (c1 + c2)), .second, .val (.double d1), .second] [(.long c1), (.double d4), (.double s2), (.double s1), (.ref a1)])) := r113.trans (st114 _ (Steps.refl _))
  have r116 : Steps p.tables e below S0 (T114.setTop (mkF m 72 #[.val (.ref a1), .val (.ref a2), .val (.long (c1 + c2)), .second, .val (.double d1), .second] [(.ref a2), (.double (FP.l2d c1)), (.double d4), (.double s2), (.double s1), (.ref a1)])) := by
    refine r115.trans ?_
    show Steps p.tables e below (T114.setTop (mkF m 70 #[.val (.ref a1), .val (.ref a2), .val (.long (c1 + c2)), .second, .val (.double d1), .second] [(.long c1), (.double d4), (.double s2), (.double s1), (.ref a1)])) _
    refine XS.l2dS X114.here hx rfl (hb hby d4_70) rfl rfl ?_
    refine XS.aloadN X114.here hx rfl (hb hby d4_71) rfl rfl ?_
    exact Steps.refl _
  obtain ⟨T117, X117, e117, st117⟩ := getF X114 hx hZ hown (host := "") (Or.inl (hw _ (List.mem_of_getElem? (i := 20) rfl))) Via.refl e114 F105_a2_count (g := (mkF m 72 #[.val (.ref a1), .val (.ref a2), .val (.long (c1 + c2)), .second, .val (.double d1), .second] [(.ref a2), (.double (FP.l2d c1)), (.double d4), (.double s2), (.double s1), (.ref a1)])) rfl rfl (hb hby d4_72)
  have r118 : Steps p.tables e below S0 (T117.setTop (mkF m 75 #[.val (.ref a1), .val (.ref a2), .val (.long (c1 + c2)), .second, .val (.double d1), .second] [(.long c2), (.double (FP.l2d c1)), (.double d4), (.double s2), (.double s1), (.ref a1)])) := r116.trans (st117 _ (Steps.refl _))
  have r119 : Steps p.tables e below S0 (T117.setTop (mkF m 83 #[.val (.ref a1), .val (.ref a2), .val (.long (c1 + c2)), .second, .val (.double d1), .second] [(.double ss), (.ref a1)])) := by
    refine r118.trans ?_
    show Steps p.tables e below (T117.setTop (mkF m 75 #[.val (.ref a1), .val (.ref a2), .val (.long (c1 + c2)), .second, .val (.double d1), .second] [(.long c2), (.double (FP.l2d c1)), (.double d4), (.double s2), (.double s1), (.ref a1)])) _
    refine XS.l2dS X117.here hx rfl (hb hby d4_75) rfl rfl ?_
    refine XS.dmulS X117.here hx rfl (hb hby d4_76) rfl (by rw [fe5]; exact fn5) fe5 ?_
    refine XS.lloadN X117.here hx rfl (hb hby d4_77) rfl ?_
    show Steps p.tables e below (T117.setTop (mkF m 78 #[.val (.ref a1), .val (.ref a2), .val (.long (c1 + c2)), .second, .val (.double d1), .second] [(.long (c1 + c2)), (.double d5), (.double d4), (.double s2), (.double s1), (.ref a1)])) _
    refine XS.l2dS X117.here hx rfl (hb hby d4_78) rfl rfl ?_
    refine XS.ddivS X117.here hx rfl (hb hby d4_79) rfl (by rw [fe6]; exact fn6) fe6 ?_
    refine XS.dmulS X117.here hx rfl (hb hby d4_80) rfl (by rw [fe7]; exact fn7) fe7 ?_
    show Steps p.tables e below (T117.setTop (mkF m 81 #[.val (.ref a1), .val (.ref a2), .val (.long (c1 + c2)), .second, .val (.double d1), .second] [(.double d7), (.double s2), (.double s1), (.ref a1)])) _
    refine XS.daddS X117.here hx rfl (hb hby d4_81) rfl (by rw [fe8]; exact fn8) fe8 ?_
    refine XS.daddS X117.here hx rfl (hb hby d4_82) rfl (by rw [es]; exact ns) es ?_
    exact Steps.refl _
  obtain ⟨T120, h120, X120, e120, W120, st120⟩ := putF X117 hx hZ hown (host := "") (Or.inl (hw _ (List.mem_of_getElem? (i := 52) rfl))) Via.refl e117 F105_a1_squares E105_a1 (Or.inl (hw _ (List.mem_of_getElem? (i := 53) rfl))) (hw _ (List.mem_of_getElem? (i := 7) rfl)) (ty := .double) (by decide) rfl rfl (g := (mkF m 83 #[.val (.ref a1), .val (.ref a2), .val (.long (c1 + c2)), .second, .val (.double d1), .second] [(.double ss), (.ref a1)])) rfl rfl (hb hby d4_83)
  have N120 := Fr.snoc X120 N105 g_a1
  have F120_a1_count := F105_a1_count.other W120 (Or.inr (slot_ne (a0 := a0) (Or.inl (hw _ (List.mem_of_getElem? (i := 21) rfl))) (Or.inl (hw _ (List.mem_of_getElem? (i := 53) rfl))) (by decide) (t := .long) (t' := .double) (by decide) (by decide)))
  have F120_a1_mean := F105_a1_mean.other W120 (Or.inr (slot_ne (a0 := a0) (Or.inl (hw _ (List.mem_of_getElem? (i := 51) rfl))) (Or.inl (hw _ (List.mem_of_getElem? (i := 53) rfl))) (by decide) (t := .double) (t' := .double) (by decide) (by decide)))
  have F120_a1_squares := F105_a1_squares.same W120
  have F120_a2_count := F105_a2_count.other W120 (Or.inl (Ne.symm q12))
  have F120_a2_mean := F105_a2_mean.other W120 (Or.inl (Ne.symm q12))
  have F120_a2_squares := F105_a2_squares.other W120 (Or.inl (Ne.symm q12))
  have E120_a1 := E105_a1.wr W120
  have Z120 : n0 ≤ h120.size := Nat.le_trans Z105 (Nat.le_of_eq W120.size.symm)
  have K120 := K105.wr W120 (Or.inl (List.mem_of_getElem? (i := 0) rfl))
  have r121 : Steps p.tables e below S0 (T120.setTop (mkF m 86 #[.val (.ref a1), .val (.ref a2), .val (.long (c1 + c2)), .second, .val (.double d1), .second] [])) := r119.trans (st120 _ (Steps.refl _))
  have r122 : Steps p.tables e below S0 (T120.setTop (mkF m 88 #[.val (.ref a1), .val (.ref a2), .val (.long (c1 + c2)), .second, .val (.double d1), .second] [(.long (c1 + c2)), (.ref a1)])) := by
    refine r121.trans ?_
    show Steps p.tables e below (T120.setTop (mkF m 86 #[.val (.ref a1), .val (.ref a2), .val (.long (c1 + c2)), .second, .val (.double d1), .second] [])) _
    refine XS.aloadN X120.here hx rfl (hb hby d4_86) rfl rfl ?_
    refine XS.lloadN X120.here hx rfl (hb hby d4_87) rfl ?_
    exact Steps.refl _
  obtain ⟨T123, h123, X123, e123, W123, st123⟩ := putF X120 hx hZ hown (host := "") (Or.inl (hw _ (List.mem_of_getElem? (i := 20) rfl))) Via.refl e120 F120_a1_count E120_a1 (Or.inl (hw _ (List.mem_of_getElem? (i := 21) rfl))) (hw _ (List.mem_of_getElem? (i := 7) rfl)) (ty := .long) (by decide) rfl rfl (g := (mkF m 88 #[.val (.ref a1), .val (.ref a2), .val (.long (c1 + c2)), .second, .val (.double d1), .second] [(.long (c1 + c2)), (.ref a1)])) rfl rfl (hb hby d4_88)
  have N123 := Fr.snoc X123 N120 g_a1
  have F123_a1_count := F120_a1_count.same W123
  have F123_a1_mean := F120_a1_mean.other W123 (Or.inr (slot_ne (a0 := a0) (Or.inl (hw _ (List.mem_of_getElem? (i := 51) rfl))) (Or.inl (hw _ (List.mem_of_getElem? (i := 21) rfl))) (by decide) (t := .double) (t' := .long) (by decide) (by decide)))
  have F123_a1_squares := F120_a1_squares.other W123 (Or.inr (slot_ne (a0 := a0) (Or.inl (hw _ (List.mem_of_getElem? (i := 53) rfl))) (Or.inl (hw _ (List.mem_of_getElem? (i := 21) rfl))) (by decide) (t := .double) (t' := .long) (by decide) (by decide)))
  have F123_a2_count := F120_a2_count.other W123 (Or.inl (Ne.symm q12))
  have F123_a2_mean := F120_a2_mean.other W123 (Or.inl (Ne.symm q12))
  have F123_a2_squares := F120_a2_squares.other W123 (Or.inl (Ne.symm q12))
  have E123_a1 := E120_a1.wr W123
  have Z123 : n0 ≤ h123.size := Nat.le_trans Z120 (Nat.le_of_eq W123.size.symm)
  have K123 := K120.wr W123 (Or.inl (List.mem_of_getElem? (i := 0) rfl))
  have r124 : Steps p.tables e below S0 (T123.setTop (mkF m 91 #[.val (.ref a1), .val (.ref a2), .val (.long (c1 + c2)), .second, .val (.double d1), .second] [])) := r122.trans (st123 _ (Steps.refl _))
  have r125 : Steps p.tables e below S0 (T123.setTop (mkF m 92 #[.val (.ref a1), .val (.ref a2), .val (.long (c1 + c2)), .second, .val (.double d1), .second] [(.ref a1)])) := by
    refine r124.trans ?_
    show Steps p.tables e below (T123.setTop (mkF m 91 #[.val (.ref a1), .val (.ref a2), .val (.long (c1 + c2)), .second, .val (.double d1), .second] [])) _
    refine XS.aloadN X123.here hx rfl (hb hby d4_91) rfl rfl ?_
    exact Steps.refl _
  obtain ⟨fs, hr, hrun, hended, hW, hsame⟩ := X123.leave (v := some (.ref a1)) (fun h => by rw [Bd.returns] at h; cases h)
  refine ⟨_, _, pre0 _ ?_, hrun, hended, _, _, rfl, ?_, ⟨_, rfl⟩, hW, hsame.mono (by decide) (by decide)⟩
  · rw [← hS0]
    refine r125.trans ?_
    show Steps p.tables e below (T123.setTop (mkF m 92 #[.val (.ref a1), .val (.ref a2), .val (.long (c1 + c2)), .second, .val (.double d1), .second] [(.ref a1)])) _
    jvm_step X123.here [X123.here.top, hx, (hb hby d4_92), X123.method', Bd.returns, Value.isRef, FieldType.isReference]
    first | (intro acts; rw [hr _ acts rfl rfl rfl]) | rw [hr _ _ rfl rfl rfl]
    exact Steps.refl _
  · show QmC1 Z a1 a2 c1 m1 s1 c2 m2 s2 mm ss h0 n0 _ T123.heap _; rw [e123]; exact ⟨rfl, N123, K123, E123_a1, F123_a1_count, F123_a1_mean, F123_a1_squares⟩
set_option maxRecDepth 65536 in
set_option maxHeartbeats 40000000 in
theorem sgA {p : Program} {e : Env} {s : State} {m : MethodId} {below : List Frame} {meth : Method} {c : Code} (l : Launch) (Z : State) (a0 : Array Value) (hw : ∀ d ∈ tables_1, d.before a0 Z = true) (p1 : Int32) (p2 p3 p4 : Int64) (hx : p.tables.exec = Jvm.exec) (hby : c.code = code) (hml : c.maxLocals = 35) (hown : s.vm.findClass "org/rowfold/aggregate/MomentsCombinePinLaw" = some m.cls) (hZ : Z.Warmed39 s.vm)  (S0 T0 : State) (h0 : Heap) (L0 : List Loc) (n0 : Nat) (X0 : Stand p l e room_1 s m #[(.int p1), (.long p2), (.long p3), (.long p4)] below meth c T0 L0 0 0) (e0 : T0.heap = h0) (N0 : Fr n0 L0) (O0 : Old Z n0 h0) (Z0 : n0 ≤ h0.size)  (r0 : Steps p.tables e below S0 (T0.setTop (mkF m 0 #[.val (.int p1), .val (.long p2), .second, .val (.long p3), .second, .val (.long p4), .second, .unset, .unset, .unset, .unset, .unset, .unset, .unset, .unset, .unset, .unset, .unset, .unset, .unset, .unset, .unset, .unset, .unset, .unset, .unset, .unset, .unset, .unset, .unset, .unset, .unset, .unset, .unset, .unset] []))) :
    ∃ (T' : State) (h' : Heap) (L' : List Loc) (b1 b2 : Addr) (sl mm kk nm qq : Int32), Stand p l e room_1 s m #[(.int p1), (.long p2), (.long p3), (.long p4)] below meth c T' L' 2 14 ∧ T'.heap = h' ∧ Fr n0 L' ∧ Old Z n0 h' ∧ n0 ≤ h'.size ∧ ((mm = 0 ∧ kk = 0 ∧ nm = 0) ∨ (mm = 0 ∧ kk = 1 ∧ nm = 1) ∨ (mm = 0 ∧ kk = 2 ∧ nm = 2) ∨ (mm = 1 ∧ kk = 0 ∧ nm = 1) ∨ (mm = 2 ∧ kk = 0 ∧ nm = 2) ∨ (mm = 1 ∧ kk = 1 ∧ nm = 2) ∨ (mm = 2 ∧ kk = 2 ∧ nm = 4)) ∧ ((nm = 1 ∧ qq = 1) ∨ (nm = 2 ∧ qq = 2) ∨ (¬ nm = 1 ∧ ¬ nm = 2 ∧ qq = 0)) ∧ Steps p.tables e below S0 (T'.setTop (mkF m 120 #[.val (.int p1), .val (.long p2), .second, .val (.long p3), .second, .val (.long p4), .second, .val (.int sl), .val (.ref b1), .val (.ref b2), .val (.int mm), .val (.int kk), .val (.int nm), .val (.int qq), .unset, .unset, .unset, .unset, .unset, .unset, .unset, .unset, .unset, .unset, .unset, .unset, .unset, .unset, .unset, .unset, .unset, .unset, .unset, .unset, .unset] [])) := by
  have r126 : Steps p.tables e below S0 (T0.setTop (mkF m 9 #[.val (.int p1), .val (.long p2), .second, .val (.long p3), .second, .val (.long p4), .second, .val (.int ((p1 &&& (2147483647 : Int32)) % (7 : Int32))), .unset, .unset, .unset, .unset, .unset, .unset, .unset, .unset, .unset, .unset, .unset, .unset, .unset, .unset, .unset, .unset, .unset, .unset, .unset, .unset, .unset, .unset, .unset, .unset, .unset, .unset, .unset] [])) := by
    refine r0.trans ?_
    show Steps p.tables e below (T0.setTop (mkF m 0 #[.val (.int p1), .val (.long p2), .second, .val (.long p3), .second, .val (.long p4), .second, .unset, .unset, .unset, .unset, .unset, .unset, .unset, .unset, .unset, .unset, .unset, .unset, .unset, .unset, .unset, .unset, .unset, .unset, .unset, .unset, .unset, .unset, .unset, .unset, .unset, .unset, .unset, .unset] [])) _
    refine XS.iloadN X0.here hx rfl (hb hby at_0) rfl ?_
    show Steps p.tables e below (T0.setTop (mkF m 1 #[.val (.int p1), .val (.long p2), .second, .val (.long p3), .second, .val (.long p4), .second, .unset, .unset, .unset, .unset, .unset, .unset, .unset, .unset, .unset, .unset, .unset, .unset, .unset, .unset, .unset, .unset, .unset, .unset, .unset, .unset, .unset, .unset, .unset, .unset, .unset, .unset, .unset, .unset] [(.int p1)])) _
    refine X0.ldcInt hx hown (mvT hZ (hw _ (List.mem_of_getElem? (i := 0) rfl))) (g := (mkF m 1 #[.val (.int p1), .val (.long p2), .second, .val (.long p3), .second, .val (.long p4), .second, .unset, .unset, .unset, .unset, .unset, .unset, .unset, .unset, .unset, .unset, .unset, .unset, .unset, .unset, .unset, .unset, .unset, .unset, .unset, .unset, .unset, .unset, .unset, .unset, .unset, .unset, .unset, .unset] [(.int p1)])) rfl (hb hby at_1) _ ?_
    refine XS.iand X0.here hx rfl (hb hby at_3) rfl ?_
    refine XS.bipush X0.here hx rfl (hb hby at_4) ?_
    show Steps p.tables e below (T0.setTop (mkF m 6 #[.val (.int p1), .val (.long p2), .second, .val (.long p3), .second, .val (.long p4), .second, .unset, .unset, .unset, .unset, .unset, .unset, .unset, .unset, .unset, .unset, .unset, .unset, .unset, .unset, .unset, .unset, .unset, .unset, .unset, .unset, .unset, .unset, .unset, .unset, .unset, .unset, .unset, .unset] [(.int (7 : Int32)), (.int (p1 &&& (2147483647 : Int32)))])) _
    refine iremM X0 hx rfl (hb hby at_6) rfl (by decide) ?_
    refine XS.istore X0.here hx rfl (hb hby at_7) rfl (l' := #[.val (.int p1), .val (.long p2), .second, .val (.long p3), .second, .val (.long p4), .second, .val (.int ((p1 &&& (2147483647 : Int32)) % (7 : Int32))), .unset, .unset, .unset, .unset, .unset, .unset, .unset, .unset, .unset, .unset, .unset, .unset, .unset, .unset, .unset, .unset, .unset, .unset, .unset, .unset, .unset, .unset, .unset, .unset, .unset, .unset, .unset]) rfl ?_
    exact Steps.refl _
  obtain ⟨sl, hsl⟩ : ∃ z, z = ((p1 &&& (2147483647 : Int32)) % (7 : Int32)) := ⟨_, rfl⟩
  have r127 : Steps p.tables e below S0 (T0.setTop (mkF m 9 #[.val (.int p1), .val (.long p2), .second, .val (.long p3), .second, .val (.long p4), .second, .val (.int sl), .unset, .unset, .unset, .unset, .unset, .unset, .unset, .unset, .unset, .unset, .unset, .unset, .unset, .unset, .unset, .unset, .unset, .unset, .unset, .unset, .unset, .unset, .unset, .unset, .unset, .unset, .unset] [])) := by rw [hsl]; exact r126
  have hsl2 := own_sel p1
  rw [← hsl] at hsl2
  obtain ⟨hsl0, hsl7⟩ := own_sl hsl2
  have r128 : Steps p.tables e below S0 (T0.setTop (mkF m 11 #[.val (.int p1), .val (.long p2), .second, .val (.long p3), .second, .val (.long p4), .second, .val (.int sl), .unset, .unset, .unset, .unset, .unset, .unset, .unset, .unset, .unset, .unset, .unset, .unset, .unset, .unset, .unset, .unset, .unset, .unset, .unset, .unset, .unset, .unset, .unset, .unset, .unset, .unset, .unset] [(.int (7 : Int32))])) := by
    refine r127.trans ?_
    show Steps p.tables e below (T0.setTop (mkF m 9 #[.val (.int p1), .val (.long p2), .second, .val (.long p3), .second, .val (.long p4), .second, .val (.int sl), .unset, .unset, .unset, .unset, .unset, .unset, .unset, .unset, .unset, .unset, .unset, .unset, .unset, .unset, .unset, .unset, .unset, .unset, .unset, .unset, .unset, .unset, .unset, .unset, .unset, .unset, .unset] [])) _
    refine XS.bipush X0.here hx rfl (hb hby at_9) ?_
    exact Steps.refl _
  obtain ⟨T129, h129, k129, X129, e129, E129, A129, st129⟩ := newP X0 hx hZ (hw _ (List.mem_of_getElem? (i := 1) rfl)) e0 (g := (mkF m 11 #[.val (.int p1), .val (.long p2), .second, .val (.long p3), .second, .val (.long p4), .second, .val (.int sl), .unset, .unset, .unset, .unset, .unset, .unset, .unset, .unset, .unset, .unset, .unset, .unset, .unset, .unset, .unset, .unset, .unset, .unset, .unset, .unset, .unset, .unset, .unset, .unset, .unset, .unset, .unset] [(.int (7 : Int32))])) rfl (hb hby at_11) rfl (by decide) (cap := 7) (by decide) (by decide) (by decide) (by decide)
  obtain ⟨b1, g129⟩ : ∃ z, z = h0.size := ⟨_, rfl⟩
  rw [← g129] at A129 st129
  have G_b1 : Gar Z h129 b1 .int ((7 : Int32)).toNatClampNeg (fun _ => defaultValue .int) := Gar.new A129
  have g_b1 : n0 ≤ b1 := Nat.le_trans Z0 (Nat.le_of_eq g129.symm)
  have Z129 : n0 ≤ h129.size := Nat.le_trans Z0 E129.1
  have O129 := O0.ext E129
  have r130 : Steps p.tables e below S0 (T129.setTop (mkF m 13 #[.val (.int p1), .val (.long p2), .second, .val (.long p3), .second, .val (.long p4), .second, .val (.int sl), .unset, .unset, .unset, .unset, .unset, .unset, .unset, .unset, .unset, .unset, .unset, .unset, .unset, .unset, .unset, .unset, .unset, .unset, .unset, .unset, .unset, .unset, .unset, .unset, .unset, .unset, .unset] [(.ref b1)])) := r128.trans (st129 _ (Steps.refl _))
  have r131 : Steps p.tables e below S0 (T129.setTop (mkF m 16 #[.val (.int p1), .val (.long p2), .second, .val (.long p3), .second, .val (.long p4), .second, .val (.int sl), .unset, .unset, .unset, .unset, .unset, .unset, .unset, .unset, .unset, .unset, .unset, .unset, .unset, .unset, .unset, .unset, .unset, .unset, .unset, .unset, .unset, .unset, .unset, .unset, .unset, .unset, .unset] [(.int (0 : Int32)), (.int (0 : Int32)), (.ref b1), (.ref b1)])) := by
    refine r130.trans ?_
    show Steps p.tables e below (T129.setTop (mkF m 13 #[.val (.int p1), .val (.long p2), .second, .val (.long p3), .second, .val (.long p4), .second, .val (.int sl), .unset, .unset, .unset, .unset, .unset, .unset, .unset, .unset, .unset, .unset, .unset, .unset, .unset, .unset, .unset, .unset, .unset, .unset, .unset, .unset, .unset, .unset, .unset, .unset, .unset, .unset, .unset] [(.ref b1)])) _
    refine XS.dup X129.here hx rfl (hb hby at_13) rfl rfl ?_
    refine XS.iconst X129.here hx rfl (hb hby at_14) ?_
    refine XS.iconst X129.here hx rfl (hb hby at_15) ?_
    exact Steps.refl _
  obtain ⟨T132, h132, X132, e132, W132, st132⟩ := stIG X129 hx hZ e129 G_b1 (j := (0 : Int32)) (by decide) (by decide) (g := (mkF m 16 #[.val (.int p1), .val (.long p2), .second, .val (.long p3), .second, .val (.long p4), .second, .val (.int sl), .unset, .unset, .unset, .unset, .unset, .unset, .unset, .unset, .unset, .unset, .unset, .unset, .unset, .unset, .unset, .unset, .unset, .unset, .unset, .unset, .unset, .unset, .unset, .unset, .unset, .unset, .unset] [(.int (0 : Int32)), (.int (0 : Int32)), (.ref b1), (.ref b1)])) rfl rfl (hb hby at_16)
  have N132 := Fr.snoc X132 N0 g_b1
  have G132_b1 := G_b1.set W132
  have Z132 : n0 ≤ h132.size := Nat.le_trans Z129 (Nat.le_of_eq W132.size.symm)
  have O132 := O129.wr W132 g_b1
  have r133 : Steps p.tables e below S0 (T132.setTop (mkF m 17 #[.val (.int p1), .val (.long p2), .second, .val (.long p3), .second, .val (.long p4), .second, .val (.int sl), .unset, .unset, .unset, .unset, .unset, .unset, .unset, .unset, .unset, .unset, .unset, .unset, .unset, .unset, .unset, .unset, .unset, .unset, .unset, .unset, .unset, .unset, .unset, .unset, .unset, .unset, .unset] [(.ref b1)])) := r131.trans (st132 _ (Steps.refl _))
  have r134 : Steps p.tables e below S0 (T132.setTop (mkF m 20 #[.val (.int p1), .val (.long p2), .second, .val (.long p3), .second, .val (.long p4), .second, .val (.int sl), .unset, .unset, .unset, .unset, .unset, .unset, .unset, .unset, .unset, .unset, .unset, .unset, .unset, .unset, .unset, .unset, .unset, .unset, .unset, .unset, .unset, .unset, .unset, .unset, .unset, .unset, .unset] [(.int (0 : Int32)), (.int (1 : Int32)), (.ref b1), (.ref b1)])) := by
    refine r133.trans ?_
    show Steps p.tables e below (T132.setTop (mkF m 17 #[.val (.int p1), .val (.long p2), .second, .val (.long p3), .second, .val (.long p4), .second, .val (.int sl), .unset, .unset, .unset, .unset, .unset, .unset, .unset, .unset, .unset, .unset, .unset, .unset, .unset, .unset, .unset, .unset, .unset, .unset, .unset, .unset, .unset, .unset, .unset, .unset, .unset, .unset, .unset] [(.ref b1)])) _
    refine XS.dup X132.here hx rfl (hb hby at_17) rfl rfl ?_
    refine XS.iconst X132.here hx rfl (hb hby at_18) ?_
    refine XS.iconst X132.here hx rfl (hb hby at_19) ?_
    exact Steps.refl _
  obtain ⟨T135, h135, X135, e135, W135, st135⟩ := stIG X132 hx hZ e132 G132_b1 (j := (1 : Int32)) (by decide) (by decide) (g := (mkF m 20 #[.val (.int p1), .val (.long p2), .second, .val (.long p3), .second, .val (.long p4), .second, .val (.int sl), .unset, .unset, .unset, .unset, .unset, .unset, .unset, .unset, .unset, .unset, .unset, .unset, .unset, .unset, .unset, .unset, .unset, .unset, .unset, .unset, .unset, .unset, .unset, .unset, .unset, .unset, .unset] [(.int (0 : Int32)), (.int (1 : Int32)), (.ref b1), (.ref b1)])) rfl rfl (hb hby at_20)
  have N135 := Fr.snoc X135 N132 g_b1
  have G135_b1 := G132_b1.set W135
  have Z135 : n0 ≤ h135.size := Nat.le_trans Z132 (Nat.le_of_eq W135.size.symm)
  have O135 := O132.wr W135 g_b1
  have r136 : Steps p.tables e below S0 (T135.setTop (mkF m 21 #[.val (.int p1), .val (.long p2), .second, .val (.long p3), .second, .val (.long p4), .second, .val (.int sl), .unset, .unset, .unset, .unset, .unset, .unset, .unset, .unset, .unset, .unset, .unset, .unset, .unset, .unset, .unset, .unset, .unset, .unset, .unset, .unset, .unset, .unset, .unset, .unset, .unset, .unset, .unset] [(.ref b1)])) := r134.trans (st135 _ (Steps.refl _))
  have r137 : Steps p.tables e below S0 (T135.setTop (mkF m 24 #[.val (.int p1), .val (.long p2), .second, .val (.long p3), .second, .val (.long p4), .second, .val (.int sl), .unset, .unset, .unset, .unset, .unset, .unset, .unset, .unset, .unset, .unset, .unset, .unset, .unset, .unset, .unset, .unset, .unset, .unset, .unset, .unset, .unset, .unset, .unset, .unset, .unset, .unset, .unset] [(.int (0 : Int32)), (.int (2 : Int32)), (.ref b1), (.ref b1)])) := by
    refine r136.trans ?_
    show Steps p.tables e below (T135.setTop (mkF m 21 #[.val (.int p1), .val (.long p2), .second, .val (.long p3), .second, .val (.long p4), .second, .val (.int sl), .unset, .unset, .unset, .unset, .unset, .unset, .unset, .unset, .unset, .unset, .unset, .unset, .unset, .unset, .unset, .unset, .unset, .unset, .unset, .unset, .unset, .unset, .unset, .unset, .unset, .unset, .unset] [(.ref b1)])) _
    refine XS.dup X135.here hx rfl (hb hby at_21) rfl rfl ?_
    refine XS.iconst X135.here hx rfl (hb hby at_22) ?_
    refine XS.iconst X135.here hx rfl (hb hby at_23) ?_
    exact Steps.refl _
  obtain ⟨T138, h138, X138, e138, W138, st138⟩ := stIG X135 hx hZ e135 G135_b1 (j := (2 : Int32)) (by decide) (by decide) (g := (mkF m 24 #[.val (.int p1), .val (.long p2), .second, .val (.long p3), .second, .val (.long p4), .second, .val (.int sl), .unset, .unset, .unset, .unset, .unset, .unset, .unset, .unset, .unset, .unset, .unset, .unset, .unset, .unset, .unset, .unset, .unset, .unset, .unset, .unset, .unset, .unset, .unset, .unset, .unset, .unset, .unset] [(.int (0 : Int32)), (.int (2 : Int32)), (.ref b1), (.ref b1)])) rfl rfl (hb hby at_24)
  have N138 := Fr.snoc X138 N135 g_b1
  have G138_b1 := G135_b1.set W138
  have Z138 : n0 ≤ h138.size := Nat.le_trans Z135 (Nat.le_of_eq W138.size.symm)
  have O138 := O135.wr W138 g_b1
  have r139 : Steps p.tables e below S0 (T138.setTop (mkF m 25 #[.val (.int p1), .val (.long p2), .second, .val (.long p3), .second, .val (.long p4), .second, .val (.int sl), .unset, .unset, .unset, .unset, .unset, .unset, .unset, .unset, .unset, .unset, .unset, .unset, .unset, .unset, .unset, .unset, .unset, .unset, .unset, .unset, .unset, .unset, .unset, .unset, .unset, .unset, .unset] [(.ref b1)])) := r137.trans (st138 _ (Steps.refl _))
  have r140 : Steps p.tables e below S0 (T138.setTop (mkF m 28 #[.val (.int p1), .val (.long p2), .second, .val (.long p3), .second, .val (.long p4), .second, .val (.int sl), .unset, .unset, .unset, .unset, .unset, .unset, .unset, .unset, .unset, .unset, .unset, .unset, .unset, .unset, .unset, .unset, .unset, .unset, .unset, .unset, .unset, .unset, .unset, .unset, .unset, .unset, .unset] [(.int (1 : Int32)), (.int (3 : Int32)), (.ref b1), (.ref b1)])) := by
    refine r139.trans ?_
    show Steps p.tables e below (T138.setTop (mkF m 25 #[.val (.int p1), .val (.long p2), .second, .val (.long p3), .second, .val (.long p4), .second, .val (.int sl), .unset, .unset, .unset, .unset, .unset, .unset, .unset, .unset, .unset, .unset, .unset, .unset, .unset, .unset, .unset, .unset, .unset, .unset, .unset, .unset, .unset, .unset, .unset, .unset, .unset, .unset, .unset] [(.ref b1)])) _
    refine XS.dup X138.here hx rfl (hb hby at_25) rfl rfl ?_
    refine XS.iconst X138.here hx rfl (hb hby at_26) ?_
    refine XS.iconst X138.here hx rfl (hb hby at_27) ?_
    exact Steps.refl _
  obtain ⟨T141, h141, X141, e141, W141, st141⟩ := stIG X138 hx hZ e138 G138_b1 (j := (3 : Int32)) (by decide) (by decide) (g := (mkF m 28 #[.val (.int p1), .val (.long p2), .second, .val (.long p3), .second, .val (.long p4), .second, .val (.int sl), .unset, .unset, .unset, .unset, .unset, .unset, .unset, .unset, .unset, .unset, .unset, .unset, .unset, .unset, .unset, .unset, .unset, .unset, .unset, .unset, .unset, .unset, .unset, .unset, .unset, .unset, .unset] [(.int (1 : Int32)), (.int (3 : Int32)), (.ref b1), (.ref b1)])) rfl rfl (hb hby at_28)
  have N141 := Fr.snoc X141 N138 g_b1
  have G141_b1 := G138_b1.set W141
  have Z141 : n0 ≤ h141.size := Nat.le_trans Z138 (Nat.le_of_eq W141.size.symm)
  have O141 := O138.wr W141 g_b1
  have r142 : Steps p.tables e below S0 (T141.setTop (mkF m 29 #[.val (.int p1), .val (.long p2), .second, .val (.long p3), .second, .val (.long p4), .second, .val (.int sl), .unset, .unset, .unset, .unset, .unset, .unset, .unset, .unset, .unset, .unset, .unset, .unset, .unset, .unset, .unset, .unset, .unset, .unset, .unset, .unset, .unset, .unset, .unset, .unset, .unset, .unset, .unset] [(.ref b1)])) := r140.trans (st141 _ (Steps.refl _))
  have r143 : Steps p.tables e below S0 (T141.setTop (mkF m 32 #[.val (.int p1), .val (.long p2), .second, .val (.long p3), .second, .val (.long p4), .second, .val (.int sl), .unset, .unset, .unset, .unset, .unset, .unset, .unset, .unset, .unset, .unset, .unset, .unset, .unset, .unset, .unset, .unset, .unset, .unset, .unset, .unset, .unset, .unset, .unset, .unset, .unset, .unset, .unset] [(.int (2 : Int32)), (.int (4 : Int32)), (.ref b1), (.ref b1)])) := by
    refine r142.trans ?_
    show Steps p.tables e below (T141.setTop (mkF m 29 #[.val (.int p1), .val (.long p2), .second, .val (.long p3), .second, .val (.long p4), .second, .val (.int sl), .unset, .unset, .unset, .unset, .unset, .unset, .unset, .unset, .unset, .unset, .unset, .unset, .unset, .unset, .unset, .unset, .unset, .unset, .unset, .unset, .unset, .unset, .unset, .unset, .unset, .unset, .unset] [(.ref b1)])) _
    refine XS.dup X141.here hx rfl (hb hby at_29) rfl rfl ?_
    refine XS.iconst X141.here hx rfl (hb hby at_30) ?_
    refine XS.iconst X141.here hx rfl (hb hby at_31) ?_
    exact Steps.refl _
  obtain ⟨T144, h144, X144, e144, W144, st144⟩ := stIG X141 hx hZ e141 G141_b1 (j := (4 : Int32)) (by decide) (by decide) (g := (mkF m 32 #[.val (.int p1), .val (.long p2), .second, .val (.long p3), .second, .val (.long p4), .second, .val (.int sl), .unset, .unset, .unset, .unset, .unset, .unset, .unset, .unset, .unset, .unset, .unset, .unset, .unset, .unset, .unset, .unset, .unset, .unset, .unset, .unset, .unset, .unset, .unset, .unset, .unset, .unset, .unset] [(.int (2 : Int32)), (.int (4 : Int32)), (.ref b1), (.ref b1)])) rfl rfl (hb hby at_32)
  have N144 := Fr.snoc X144 N141 g_b1
  have G144_b1 := G141_b1.set W144
  have Z144 : n0 ≤ h144.size := Nat.le_trans Z141 (Nat.le_of_eq W144.size.symm)
  have O144 := O141.wr W144 g_b1
  have r145 : Steps p.tables e below S0 (T144.setTop (mkF m 33 #[.val (.int p1), .val (.long p2), .second, .val (.long p3), .second, .val (.long p4), .second, .val (.int sl), .unset, .unset, .unset, .unset, .unset, .unset, .unset, .unset, .unset, .unset, .unset, .unset, .unset, .unset, .unset, .unset, .unset, .unset, .unset, .unset, .unset, .unset, .unset, .unset, .unset, .unset, .unset] [(.ref b1)])) := r143.trans (st144 _ (Steps.refl _))
  have r146 : Steps p.tables e below S0 (T144.setTop (mkF m 36 #[.val (.int p1), .val (.long p2), .second, .val (.long p3), .second, .val (.long p4), .second, .val (.int sl), .unset, .unset, .unset, .unset, .unset, .unset, .unset, .unset, .unset, .unset, .unset, .unset, .unset, .unset, .unset, .unset, .unset, .unset, .unset, .unset, .unset, .unset, .unset, .unset, .unset, .unset, .unset] [(.int (1 : Int32)), (.int (5 : Int32)), (.ref b1), (.ref b1)])) := by
    refine r145.trans ?_
    show Steps p.tables e below (T144.setTop (mkF m 33 #[.val (.int p1), .val (.long p2), .second, .val (.long p3), .second, .val (.long p4), .second, .val (.int sl), .unset, .unset, .unset, .unset, .unset, .unset, .unset, .unset, .unset, .unset, .unset, .unset, .unset, .unset, .unset, .unset, .unset, .unset, .unset, .unset, .unset, .unset, .unset, .unset, .unset, .unset, .unset] [(.ref b1)])) _
    refine XS.dup X144.here hx rfl (hb hby at_33) rfl rfl ?_
    refine XS.iconst X144.here hx rfl (hb hby at_34) ?_
    refine XS.iconst X144.here hx rfl (hb hby at_35) ?_
    exact Steps.refl _
  obtain ⟨T147, h147, X147, e147, W147, st147⟩ := stIG X144 hx hZ e144 G144_b1 (j := (5 : Int32)) (by decide) (by decide) (g := (mkF m 36 #[.val (.int p1), .val (.long p2), .second, .val (.long p3), .second, .val (.long p4), .second, .val (.int sl), .unset, .unset, .unset, .unset, .unset, .unset, .unset, .unset, .unset, .unset, .unset, .unset, .unset, .unset, .unset, .unset, .unset, .unset, .unset, .unset, .unset, .unset, .unset, .unset, .unset, .unset, .unset] [(.int (1 : Int32)), (.int (5 : Int32)), (.ref b1), (.ref b1)])) rfl rfl (hb hby at_36)
  have N147 := Fr.snoc X147 N144 g_b1
  have G147_b1 := G144_b1.set W147
  have Z147 : n0 ≤ h147.size := Nat.le_trans Z144 (Nat.le_of_eq W147.size.symm)
  have O147 := O144.wr W147 g_b1
  have r148 : Steps p.tables e below S0 (T147.setTop (mkF m 37 #[.val (.int p1), .val (.long p2), .second, .val (.long p3), .second, .val (.long p4), .second, .val (.int sl), .unset, .unset, .unset, .unset, .unset, .unset, .unset, .unset, .unset, .unset, .unset, .unset, .unset, .unset, .unset, .unset, .unset, .unset, .unset, .unset, .unset, .unset, .unset, .unset, .unset, .unset, .unset] [(.ref b1)])) := r146.trans (st147 _ (Steps.refl _))
  have r149 : Steps p.tables e below S0 (T147.setTop (mkF m 41 #[.val (.int p1), .val (.long p2), .second, .val (.long p3), .second, .val (.long p4), .second, .val (.int sl), .unset, .unset, .unset, .unset, .unset, .unset, .unset, .unset, .unset, .unset, .unset, .unset, .unset, .unset, .unset, .unset, .unset, .unset, .unset, .unset, .unset, .unset, .unset, .unset, .unset, .unset, .unset] [(.int (2 : Int32)), (.int (6 : Int32)), (.ref b1), (.ref b1)])) := by
    refine r148.trans ?_
    show Steps p.tables e below (T147.setTop (mkF m 37 #[.val (.int p1), .val (.long p2), .second, .val (.long p3), .second, .val (.long p4), .second, .val (.int sl), .unset, .unset, .unset, .unset, .unset, .unset, .unset, .unset, .unset, .unset, .unset, .unset, .unset, .unset, .unset, .unset, .unset, .unset, .unset, .unset, .unset, .unset, .unset, .unset, .unset, .unset, .unset] [(.ref b1)])) _
    refine XS.dup X147.here hx rfl (hb hby at_37) rfl rfl ?_
    refine XS.bipush X147.here hx rfl (hb hby at_38) ?_
    refine XS.iconst X147.here hx rfl (hb hby at_40) ?_
    exact Steps.refl _
  obtain ⟨T150, h150, X150, e150, W150, st150⟩ := stIG X147 hx hZ e147 G147_b1 (j := (6 : Int32)) (by decide) (by decide) (g := (mkF m 41 #[.val (.int p1), .val (.long p2), .second, .val (.long p3), .second, .val (.long p4), .second, .val (.int sl), .unset, .unset, .unset, .unset, .unset, .unset, .unset, .unset, .unset, .unset, .unset, .unset, .unset, .unset, .unset, .unset, .unset, .unset, .unset, .unset, .unset, .unset, .unset, .unset, .unset, .unset, .unset] [(.int (2 : Int32)), (.int (6 : Int32)), (.ref b1), (.ref b1)])) rfl rfl (hb hby at_41)
  have N150 := Fr.snoc X150 N147 g_b1
  have G150_b1 := G147_b1.set W150
  have Z150 : n0 ≤ h150.size := Nat.le_trans Z147 (Nat.le_of_eq W150.size.symm)
  have O150 := O147.wr W150 g_b1
  have r151 : Steps p.tables e below S0 (T150.setTop (mkF m 42 #[.val (.int p1), .val (.long p2), .second, .val (.long p3), .second, .val (.long p4), .second, .val (.int sl), .unset, .unset, .unset, .unset, .unset, .unset, .unset, .unset, .unset, .unset, .unset, .unset, .unset, .unset, .unset, .unset, .unset, .unset, .unset, .unset, .unset, .unset, .unset, .unset, .unset, .unset, .unset] [(.ref b1)])) := r149.trans (st150 _ (Steps.refl _))
  have GA : Gar Z h150 b1 .int 7 (fun i => .int (own_ms i)) := (G150_b1.len (by decide)).congr (fun i hi => by
      have hi2 : i = 0 ∨ i = 1 ∨ i = 2 ∨ i = 3 ∨ i = 4 ∨ i = 5 ∨ i = 6 := by omega
      rcases hi2 with rfl | rfl | rfl | rfl | rfl | rfl | rfl <;> rfl)
  have r152 : Steps p.tables e below S0 (T150.setTop (mkF m 46 #[.val (.int p1), .val (.long p2), .second, .val (.long p3), .second, .val (.long p4), .second, .val (.int sl), .val (.ref b1), .unset, .unset, .unset, .unset, .unset, .unset, .unset, .unset, .unset, .unset, .unset, .unset, .unset, .unset, .unset, .unset, .unset, .unset, .unset, .unset, .unset, .unset, .unset, .unset, .unset, .unset] [(.int (7 : Int32))])) := by
    refine r151.trans ?_
    show Steps p.tables e below (T150.setTop (mkF m 42 #[.val (.int p1), .val (.long p2), .second, .val (.long p3), .second, .val (.long p4), .second, .val (.int sl), .unset, .unset, .unset, .unset, .unset, .unset, .unset, .unset, .unset, .unset, .unset, .unset, .unset, .unset, .unset, .unset, .unset, .unset, .unset, .unset, .unset, .unset, .unset, .unset, .unset, .unset, .unset] [(.ref b1)])) _
    refine XS.astore X150.here hx rfl (hb hby at_42) rfl rfl (l' := #[.val (.int p1), .val (.long p2), .second, .val (.long p3), .second, .val (.long p4), .second, .val (.int sl), .val (.ref b1), .unset, .unset, .unset, .unset, .unset, .unset, .unset, .unset, .unset, .unset, .unset, .unset, .unset, .unset, .unset, .unset, .unset, .unset, .unset, .unset, .unset, .unset, .unset, .unset, .unset, .unset]) rfl ?_
    refine XS.bipush X150.here hx rfl (hb hby at_44) ?_
    exact Steps.refl _
  obtain ⟨T153, h153, k153, X153, e153, E153, A153, st153⟩ := newP X150 hx hZ (hw _ (List.mem_of_getElem? (i := 1) rfl)) e150 (g := (mkF m 46 #[.val (.int p1), .val (.long p2), .second, .val (.long p3), .second, .val (.long p4), .second, .val (.int sl), .val (.ref b1), .unset, .unset, .unset, .unset, .unset, .unset, .unset, .unset, .unset, .unset, .unset, .unset, .unset, .unset, .unset, .unset, .unset, .unset, .unset, .unset, .unset, .unset, .unset, .unset, .unset, .unset] [(.int (7 : Int32))])) rfl (hb hby at_46) rfl (by decide) (cap := 7) (by decide) (by decide) (by decide) (by decide)
  obtain ⟨b2, g153⟩ : ∃ z, z = h150.size := ⟨_, rfl⟩
  rw [← g153] at A153 st153
  have ne_b1_b2 : b1 ≠ b2 := Nat.ne_of_lt (by rw [g153]; exact GA.lt)
  have G_b2 : Gar Z h153 b2 .int ((7 : Int32)).toNatClampNeg (fun _ => defaultValue .int) := Gar.new A153
  have g_b2 : n0 ≤ b2 := Nat.le_trans Z150 (Nat.le_of_eq g153.symm)
  have G153_b1 := GA.ext E153
  have Z153 : n0 ≤ h153.size := Nat.le_trans Z150 E153.1
  have O153 := O150.ext E153
  have r154 : Steps p.tables e below S0 (T153.setTop (mkF m 48 #[.val (.int p1), .val (.long p2), .second, .val (.long p3), .second, .val (.long p4), .second, .val (.int sl), .val (.ref b1), .unset, .unset, .unset, .unset, .unset, .unset, .unset, .unset, .unset, .unset, .unset, .unset, .unset, .unset, .unset, .unset, .unset, .unset, .unset, .unset, .unset, .unset, .unset, .unset, .unset, .unset] [(.ref b2)])) := r152.trans (st153 _ (Steps.refl _))
  have r155 : Steps p.tables e below S0 (T153.setTop (mkF m 51 #[.val (.int p1), .val (.long p2), .second, .val (.long p3), .second, .val (.long p4), .second, .val (.int sl), .val (.ref b1), .unset, .unset, .unset, .unset, .unset, .unset, .unset, .unset, .unset, .unset, .unset, .unset, .unset, .unset, .unset, .unset, .unset, .unset, .unset, .unset, .unset, .unset, .unset, .unset, .unset, .unset] [(.int (0 : Int32)), (.int (0 : Int32)), (.ref b2), (.ref b2)])) := by
    refine r154.trans ?_
    show Steps p.tables e below (T153.setTop (mkF m 48 #[.val (.int p1), .val (.long p2), .second, .val (.long p3), .second, .val (.long p4), .second, .val (.int sl), .val (.ref b1), .unset, .unset, .unset, .unset, .unset, .unset, .unset, .unset, .unset, .unset, .unset, .unset, .unset, .unset, .unset, .unset, .unset, .unset, .unset, .unset, .unset, .unset, .unset, .unset, .unset, .unset] [(.ref b2)])) _
    refine XS.dup X153.here hx rfl (hb hby at_48) rfl rfl ?_
    refine XS.iconst X153.here hx rfl (hb hby at_49) ?_
    refine XS.iconst X153.here hx rfl (hb hby at_50) ?_
    exact Steps.refl _
  obtain ⟨T156, h156, X156, e156, W156, st156⟩ := stIG X153 hx hZ e153 G_b2 (j := (0 : Int32)) (by decide) (by decide) (g := (mkF m 51 #[.val (.int p1), .val (.long p2), .second, .val (.long p3), .second, .val (.long p4), .second, .val (.int sl), .val (.ref b1), .unset, .unset, .unset, .unset, .unset, .unset, .unset, .unset, .unset, .unset, .unset, .unset, .unset, .unset, .unset, .unset, .unset, .unset, .unset, .unset, .unset, .unset, .unset, .unset, .unset, .unset] [(.int (0 : Int32)), (.int (0 : Int32)), (.ref b2), (.ref b2)])) rfl rfl (hb hby at_51)
  have N156 := Fr.snoc X156 N150 g_b2
  have G156_b1 := G153_b1.other W156 ne_b1_b2
  have G156_b2 := G_b2.set W156
  have Z156 : n0 ≤ h156.size := Nat.le_trans Z153 (Nat.le_of_eq W156.size.symm)
  have O156 := O153.wr W156 g_b2
  have r157 : Steps p.tables e below S0 (T156.setTop (mkF m 52 #[.val (.int p1), .val (.long p2), .second, .val (.long p3), .second, .val (.long p4), .second, .val (.int sl), .val (.ref b1), .unset, .unset, .unset, .unset, .unset, .unset, .unset, .unset, .unset, .unset, .unset, .unset, .unset, .unset, .unset, .unset, .unset, .unset, .unset, .unset, .unset, .unset, .unset, .unset, .unset, .unset] [(.ref b2)])) := r155.trans (st156 _ (Steps.refl _))
  have r158 : Steps p.tables e below S0 (T156.setTop (mkF m 55 #[.val (.int p1), .val (.long p2), .second, .val (.long p3), .second, .val (.long p4), .second, .val (.int sl), .val (.ref b1), .unset, .unset, .unset, .unset, .unset, .unset, .unset, .unset, .unset, .unset, .unset, .unset, .unset, .unset, .unset, .unset, .unset, .unset, .unset, .unset, .unset, .unset, .unset, .unset, .unset, .unset] [(.int (1 : Int32)), (.int (1 : Int32)), (.ref b2), (.ref b2)])) := by
    refine r157.trans ?_
    show Steps p.tables e below (T156.setTop (mkF m 52 #[.val (.int p1), .val (.long p2), .second, .val (.long p3), .second, .val (.long p4), .second, .val (.int sl), .val (.ref b1), .unset, .unset, .unset, .unset, .unset, .unset, .unset, .unset, .unset, .unset, .unset, .unset, .unset, .unset, .unset, .unset, .unset, .unset, .unset, .unset, .unset, .unset, .unset, .unset, .unset, .unset] [(.ref b2)])) _
    refine XS.dup X156.here hx rfl (hb hby at_52) rfl rfl ?_
    refine XS.iconst X156.here hx rfl (hb hby at_53) ?_
    refine XS.iconst X156.here hx rfl (hb hby at_54) ?_
    exact Steps.refl _
  obtain ⟨T159, h159, X159, e159, W159, st159⟩ := stIG X156 hx hZ e156 G156_b2 (j := (1 : Int32)) (by decide) (by decide) (g := (mkF m 55 #[.val (.int p1), .val (.long p2), .second, .val (.long p3), .second, .val (.long p4), .second, .val (.int sl), .val (.ref b1), .unset, .unset, .unset, .unset, .unset, .unset, .unset, .unset, .unset, .unset, .unset, .unset, .unset, .unset, .unset, .unset, .unset, .unset, .unset, .unset, .unset, .unset, .unset, .unset, .unset, .unset] [(.int (1 : Int32)), (.int (1 : Int32)), (.ref b2), (.ref b2)])) rfl rfl (hb hby at_55)
  have N159 := Fr.snoc X159 N156 g_b2
  have G159_b1 := G156_b1.other W159 ne_b1_b2
  have G159_b2 := G156_b2.set W159
  have Z159 : n0 ≤ h159.size := Nat.le_trans Z156 (Nat.le_of_eq W159.size.symm)
  have O159 := O156.wr W159 g_b2
  have r160 : Steps p.tables e below S0 (T159.setTop (mkF m 56 #[.val (.int p1), .val (.long p2), .second, .val (.long p3), .second, .val (.long p4), .second, .val (.int sl), .val (.ref b1), .unset, .unset, .unset, .unset, .unset, .unset, .unset, .unset, .unset, .unset, .unset, .unset, .unset, .unset, .unset, .unset, .unset, .unset, .unset, .unset, .unset, .unset, .unset, .unset, .unset, .unset] [(.ref b2)])) := r158.trans (st159 _ (Steps.refl _))
  have r161 : Steps p.tables e below S0 (T159.setTop (mkF m 59 #[.val (.int p1), .val (.long p2), .second, .val (.long p3), .second, .val (.long p4), .second, .val (.int sl), .val (.ref b1), .unset, .unset, .unset, .unset, .unset, .unset, .unset, .unset, .unset, .unset, .unset, .unset, .unset, .unset, .unset, .unset, .unset, .unset, .unset, .unset, .unset, .unset, .unset, .unset, .unset, .unset] [(.int (2 : Int32)), (.int (2 : Int32)), (.ref b2), (.ref b2)])) := by
    refine r160.trans ?_
    show Steps p.tables e below (T159.setTop (mkF m 56 #[.val (.int p1), .val (.long p2), .second, .val (.long p3), .second, .val (.long p4), .second, .val (.int sl), .val (.ref b1), .unset, .unset, .unset, .unset, .unset, .unset, .unset, .unset, .unset, .unset, .unset, .unset, .unset, .unset, .unset, .unset, .unset, .unset, .unset, .unset, .unset, .unset, .unset, .unset, .unset, .unset] [(.ref b2)])) _
    refine XS.dup X159.here hx rfl (hb hby at_56) rfl rfl ?_
    refine XS.iconst X159.here hx rfl (hb hby at_57) ?_
    refine XS.iconst X159.here hx rfl (hb hby at_58) ?_
    exact Steps.refl _
  obtain ⟨T162, h162, X162, e162, W162, st162⟩ := stIG X159 hx hZ e159 G159_b2 (j := (2 : Int32)) (by decide) (by decide) (g := (mkF m 59 #[.val (.int p1), .val (.long p2), .second, .val (.long p3), .second, .val (.long p4), .second, .val (.int sl), .val (.ref b1), .unset, .unset, .unset, .unset, .unset, .unset, .unset, .unset, .unset, .unset, .unset, .unset, .unset, .unset, .unset, .unset, .unset, .unset, .unset, .unset, .unset, .unset, .unset, .unset, .unset, .unset] [(.int (2 : Int32)), (.int (2 : Int32)), (.ref b2), (.ref b2)])) rfl rfl (hb hby at_59)
  have N162 := Fr.snoc X162 N159 g_b2
  have G162_b1 := G159_b1.other W162 ne_b1_b2
  have G162_b2 := G159_b2.set W162
  have Z162 : n0 ≤ h162.size := Nat.le_trans Z159 (Nat.le_of_eq W162.size.symm)
  have O162 := O159.wr W162 g_b2
  have r163 : Steps p.tables e below S0 (T162.setTop (mkF m 60 #[.val (.int p1), .val (.long p2), .second, .val (.long p3), .second, .val (.long p4), .second, .val (.int sl), .val (.ref b1), .unset, .unset, .unset, .unset, .unset, .unset, .unset, .unset, .unset, .unset, .unset, .unset, .unset, .unset, .unset, .unset, .unset, .unset, .unset, .unset, .unset, .unset, .unset, .unset, .unset, .unset] [(.ref b2)])) := r161.trans (st162 _ (Steps.refl _))
  have r164 : Steps p.tables e below S0 (T162.setTop (mkF m 63 #[.val (.int p1), .val (.long p2), .second, .val (.long p3), .second, .val (.long p4), .second, .val (.int sl), .val (.ref b1), .unset, .unset, .unset, .unset, .unset, .unset, .unset, .unset, .unset, .unset, .unset, .unset, .unset, .unset, .unset, .unset, .unset, .unset, .unset, .unset, .unset, .unset, .unset, .unset, .unset, .unset] [(.int (0 : Int32)), (.int (3 : Int32)), (.ref b2), (.ref b2)])) := by
    refine r163.trans ?_
    show Steps p.tables e below (T162.setTop (mkF m 60 #[.val (.int p1), .val (.long p2), .second, .val (.long p3), .second, .val (.long p4), .second, .val (.int sl), .val (.ref b1), .unset, .unset, .unset, .unset, .unset, .unset, .unset, .unset, .unset, .unset, .unset, .unset, .unset, .unset, .unset, .unset, .unset, .unset, .unset, .unset, .unset, .unset, .unset, .unset, .unset, .unset] [(.ref b2)])) _
    refine XS.dup X162.here hx rfl (hb hby at_60) rfl rfl ?_
    refine XS.iconst X162.here hx rfl (hb hby at_61) ?_
    refine XS.iconst X162.here hx rfl (hb hby at_62) ?_
    exact Steps.refl _
  obtain ⟨T165, h165, X165, e165, W165, st165⟩ := stIG X162 hx hZ e162 G162_b2 (j := (3 : Int32)) (by decide) (by decide) (g := (mkF m 63 #[.val (.int p1), .val (.long p2), .second, .val (.long p3), .second, .val (.long p4), .second, .val (.int sl), .val (.ref b1), .unset, .unset, .unset, .unset, .unset, .unset, .unset, .unset, .unset, .unset, .unset, .unset, .unset, .unset, .unset, .unset, .unset, .unset, .unset, .unset, .unset, .unset, .unset, .unset, .unset, .unset] [(.int (0 : Int32)), (.int (3 : Int32)), (.ref b2), (.ref b2)])) rfl rfl (hb hby at_63)
  have N165 := Fr.snoc X165 N162 g_b2
  have G165_b1 := G162_b1.other W165 ne_b1_b2
  have G165_b2 := G162_b2.set W165
  have Z165 : n0 ≤ h165.size := Nat.le_trans Z162 (Nat.le_of_eq W165.size.symm)
  have O165 := O162.wr W165 g_b2
  have r166 : Steps p.tables e below S0 (T165.setTop (mkF m 64 #[.val (.int p1), .val (.long p2), .second, .val (.long p3), .second, .val (.long p4), .second, .val (.int sl), .val (.ref b1), .unset, .unset, .unset, .unset, .unset, .unset, .unset, .unset, .unset, .unset, .unset, .unset, .unset, .unset, .unset, .unset, .unset, .unset, .unset, .unset, .unset, .unset, .unset, .unset, .unset, .unset] [(.ref b2)])) := r164.trans (st165 _ (Steps.refl _))
  have r167 : Steps p.tables e below S0 (T165.setTop (mkF m 67 #[.val (.int p1), .val (.long p2), .second, .val (.long p3), .second, .val (.long p4), .second, .val (.int sl), .val (.ref b1), .unset, .unset, .unset, .unset, .unset, .unset, .unset, .unset, .unset, .unset, .unset, .unset, .unset, .unset, .unset, .unset, .unset, .unset, .unset, .unset, .unset, .unset, .unset, .unset, .unset, .unset] [(.int (0 : Int32)), (.int (4 : Int32)), (.ref b2), (.ref b2)])) := by
    refine r166.trans ?_
    show Steps p.tables e below (T165.setTop (mkF m 64 #[.val (.int p1), .val (.long p2), .second, .val (.long p3), .second, .val (.long p4), .second, .val (.int sl), .val (.ref b1), .unset, .unset, .unset, .unset, .unset, .unset, .unset, .unset, .unset, .unset, .unset, .unset, .unset, .unset, .unset, .unset, .unset, .unset, .unset, .unset, .unset, .unset, .unset, .unset, .unset, .unset] [(.ref b2)])) _
    refine XS.dup X165.here hx rfl (hb hby at_64) rfl rfl ?_
    refine XS.iconst X165.here hx rfl (hb hby at_65) ?_
    refine XS.iconst X165.here hx rfl (hb hby at_66) ?_
    exact Steps.refl _
  obtain ⟨T168, h168, X168, e168, W168, st168⟩ := stIG X165 hx hZ e165 G165_b2 (j := (4 : Int32)) (by decide) (by decide) (g := (mkF m 67 #[.val (.int p1), .val (.long p2), .second, .val (.long p3), .second, .val (.long p4), .second, .val (.int sl), .val (.ref b1), .unset, .unset, .unset, .unset, .unset, .unset, .unset, .unset, .unset, .unset, .unset, .unset, .unset, .unset, .unset, .unset, .unset, .unset, .unset, .unset, .unset, .unset, .unset, .unset, .unset, .unset] [(.int (0 : Int32)), (.int (4 : Int32)), (.ref b2), (.ref b2)])) rfl rfl (hb hby at_67)
  have N168 := Fr.snoc X168 N165 g_b2
  have G168_b1 := G165_b1.other W168 ne_b1_b2
  have G168_b2 := G165_b2.set W168
  have Z168 : n0 ≤ h168.size := Nat.le_trans Z165 (Nat.le_of_eq W168.size.symm)
  have O168 := O165.wr W168 g_b2
  have r169 : Steps p.tables e below S0 (T168.setTop (mkF m 68 #[.val (.int p1), .val (.long p2), .second, .val (.long p3), .second, .val (.long p4), .second, .val (.int sl), .val (.ref b1), .unset, .unset, .unset, .unset, .unset, .unset, .unset, .unset, .unset, .unset, .unset, .unset, .unset, .unset, .unset, .unset, .unset, .unset, .unset, .unset, .unset, .unset, .unset, .unset, .unset, .unset] [(.ref b2)])) := r167.trans (st168 _ (Steps.refl _))
  have r170 : Steps p.tables e below S0 (T168.setTop (mkF m 71 #[.val (.int p1), .val (.long p2), .second, .val (.long p3), .second, .val (.long p4), .second, .val (.int sl), .val (.ref b1), .unset, .unset, .unset, .unset, .unset, .unset, .unset, .unset, .unset, .unset, .unset, .unset, .unset, .unset, .unset, .unset, .unset, .unset, .unset, .unset, .unset, .unset, .unset, .unset, .unset, .unset] [(.int (1 : Int32)), (.int (5 : Int32)), (.ref b2), (.ref b2)])) := by
    refine r169.trans ?_
    show Steps p.tables e below (T168.setTop (mkF m 68 #[.val (.int p1), .val (.long p2), .second, .val (.long p3), .second, .val (.long p4), .second, .val (.int sl), .val (.ref b1), .unset, .unset, .unset, .unset, .unset, .unset, .unset, .unset, .unset, .unset, .unset, .unset, .unset, .unset, .unset, .unset, .unset, .unset, .unset, .unset, .unset, .unset, .unset, .unset, .unset, .unset] [(.ref b2)])) _
    refine XS.dup X168.here hx rfl (hb hby at_68) rfl rfl ?_
    refine XS.iconst X168.here hx rfl (hb hby at_69) ?_
    refine XS.iconst X168.here hx rfl (hb hby at_70) ?_
    exact Steps.refl _
  obtain ⟨T171, h171, X171, e171, W171, st171⟩ := stIG X168 hx hZ e168 G168_b2 (j := (5 : Int32)) (by decide) (by decide) (g := (mkF m 71 #[.val (.int p1), .val (.long p2), .second, .val (.long p3), .second, .val (.long p4), .second, .val (.int sl), .val (.ref b1), .unset, .unset, .unset, .unset, .unset, .unset, .unset, .unset, .unset, .unset, .unset, .unset, .unset, .unset, .unset, .unset, .unset, .unset, .unset, .unset, .unset, .unset, .unset, .unset, .unset, .unset] [(.int (1 : Int32)), (.int (5 : Int32)), (.ref b2), (.ref b2)])) rfl rfl (hb hby at_71)
  have N171 := Fr.snoc X171 N168 g_b2
  have G171_b1 := G168_b1.other W171 ne_b1_b2
  have G171_b2 := G168_b2.set W171
  have Z171 : n0 ≤ h171.size := Nat.le_trans Z168 (Nat.le_of_eq W171.size.symm)
  have O171 := O168.wr W171 g_b2
  have r172 : Steps p.tables e below S0 (T171.setTop (mkF m 72 #[.val (.int p1), .val (.long p2), .second, .val (.long p3), .second, .val (.long p4), .second, .val (.int sl), .val (.ref b1), .unset, .unset, .unset, .unset, .unset, .unset, .unset, .unset, .unset, .unset, .unset, .unset, .unset, .unset, .unset, .unset, .unset, .unset, .unset, .unset, .unset, .unset, .unset, .unset, .unset, .unset] [(.ref b2)])) := r170.trans (st171 _ (Steps.refl _))
  have r173 : Steps p.tables e below S0 (T171.setTop (mkF m 76 #[.val (.int p1), .val (.long p2), .second, .val (.long p3), .second, .val (.long p4), .second, .val (.int sl), .val (.ref b1), .unset, .unset, .unset, .unset, .unset, .unset, .unset, .unset, .unset, .unset, .unset, .unset, .unset, .unset, .unset, .unset, .unset, .unset, .unset, .unset, .unset, .unset, .unset, .unset, .unset, .unset] [(.int (2 : Int32)), (.int (6 : Int32)), (.ref b2), (.ref b2)])) := by
    refine r172.trans ?_
    show Steps p.tables e below (T171.setTop (mkF m 72 #[.val (.int p1), .val (.long p2), .second, .val (.long p3), .second, .val (.long p4), .second, .val (.int sl), .val (.ref b1), .unset, .unset, .unset, .unset, .unset, .unset, .unset, .unset, .unset, .unset, .unset, .unset, .unset, .unset, .unset, .unset, .unset, .unset, .unset, .unset, .unset, .unset, .unset, .unset, .unset, .unset] [(.ref b2)])) _
    refine XS.dup X171.here hx rfl (hb hby at_72) rfl rfl ?_
    refine XS.bipush X171.here hx rfl (hb hby at_73) ?_
    refine XS.iconst X171.here hx rfl (hb hby at_75) ?_
    exact Steps.refl _
  obtain ⟨T174, h174, X174, e174, W174, st174⟩ := stIG X171 hx hZ e171 G171_b2 (j := (6 : Int32)) (by decide) (by decide) (g := (mkF m 76 #[.val (.int p1), .val (.long p2), .second, .val (.long p3), .second, .val (.long p4), .second, .val (.int sl), .val (.ref b1), .unset, .unset, .unset, .unset, .unset, .unset, .unset, .unset, .unset, .unset, .unset, .unset, .unset, .unset, .unset, .unset, .unset, .unset, .unset, .unset, .unset, .unset, .unset, .unset, .unset, .unset] [(.int (2 : Int32)), (.int (6 : Int32)), (.ref b2), (.ref b2)])) rfl rfl (hb hby at_76)
  have N174 := Fr.snoc X174 N171 g_b2
  have G174_b1 := G171_b1.other W174 ne_b1_b2
  have G174_b2 := G171_b2.set W174
  have Z174 : n0 ≤ h174.size := Nat.le_trans Z171 (Nat.le_of_eq W174.size.symm)
  have O174 := O171.wr W174 g_b2
  have r175 : Steps p.tables e below S0 (T174.setTop (mkF m 77 #[.val (.int p1), .val (.long p2), .second, .val (.long p3), .second, .val (.long p4), .second, .val (.int sl), .val (.ref b1), .unset, .unset, .unset, .unset, .unset, .unset, .unset, .unset, .unset, .unset, .unset, .unset, .unset, .unset, .unset, .unset, .unset, .unset, .unset, .unset, .unset, .unset, .unset, .unset, .unset, .unset] [(.ref b2)])) := r173.trans (st174 _ (Steps.refl _))
  have GB : Gar Z h174 b2 .int 7 (fun i => .int (own_ks i)) := (G174_b2.len (by decide)).congr (fun i hi => by
      have hi2 : i = 0 ∨ i = 1 ∨ i = 2 ∨ i = 3 ∨ i = 4 ∨ i = 5 ∨ i = 6 := by omega
      rcases hi2 with rfl | rfl | rfl | rfl | rfl | rfl | rfl <;> rfl)
  have r176 : Steps p.tables e below S0 (T174.setTop (mkF m 100 #[.val (.int p1), .val (.long p2), .second, .val (.long p3), .second, .val (.long p4), .second, .val (.int sl), .val (.ref b1), .val (.ref b2), .val (.int (own_ms sl.toNatClampNeg)), .val (.int (own_ks sl.toNatClampNeg)), .val (.int ((own_ms sl.toNatClampNeg) + (own_ks sl.toNatClampNeg))), .unset, .unset, .unset, .unset, .unset, .unset, .unset, .unset, .unset, .unset, .unset, .unset, .unset, .unset, .unset, .unset, .unset, .unset, .unset, .unset, .unset, .unset] [])) := by
    refine r175.trans ?_
    show Steps p.tables e below (T174.setTop (mkF m 77 #[.val (.int p1), .val (.long p2), .second, .val (.long p3), .second, .val (.long p4), .second, .val (.int sl), .val (.ref b1), .unset, .unset, .unset, .unset, .unset, .unset, .unset, .unset, .unset, .unset, .unset, .unset, .unset, .unset, .unset, .unset, .unset, .unset, .unset, .unset, .unset, .unset, .unset, .unset, .unset, .unset] [(.ref b2)])) _
    refine XS.astore X174.here hx rfl (hb hby at_77) rfl rfl (l' := #[.val (.int p1), .val (.long p2), .second, .val (.long p3), .second, .val (.long p4), .second, .val (.int sl), .val (.ref b1), .val (.ref b2), .unset, .unset, .unset, .unset, .unset, .unset, .unset, .unset, .unset, .unset, .unset, .unset, .unset, .unset, .unset, .unset, .unset, .unset, .unset, .unset, .unset, .unset, .unset, .unset, .unset]) rfl ?_
    refine XS.aload X174.here hx rfl (hb hby at_79) rfl rfl ?_
    refine XS.iload X174.here hx rfl (hb hby at_81) rfl ?_
    show Steps p.tables e below (T174.setTop (mkF m 83 #[.val (.int p1), .val (.long p2), .second, .val (.long p3), .second, .val (.long p4), .second, .val (.int sl), .val (.ref b1), .val (.ref b2), .unset, .unset, .unset, .unset, .unset, .unset, .unset, .unset, .unset, .unset, .unset, .unset, .unset, .unset, .unset, .unset, .unset, .unset, .unset, .unset, .unset, .unset, .unset, .unset, .unset] [(.int sl), (.ref b1)])) _
    refine ldI X174 hx hZ e174 G174_b1 (j := sl) hsl0 hsl7 (v := (.int (own_ms sl.toNatClampNeg))) rfl (g := (mkF m 83 #[.val (.int p1), .val (.long p2), .second, .val (.long p3), .second, .val (.long p4), .second, .val (.int sl), .val (.ref b1), .val (.ref b2), .unset, .unset, .unset, .unset, .unset, .unset, .unset, .unset, .unset, .unset, .unset, .unset, .unset, .unset, .unset, .unset, .unset, .unset, .unset, .unset, .unset, .unset, .unset, .unset, .unset] [(.int sl), (.ref b1)])) rfl rfl (hb hby at_83) _ ?_
    refine XS.istore X174.here hx rfl (hb hby at_84) rfl (l' := #[.val (.int p1), .val (.long p2), .second, .val (.long p3), .second, .val (.long p4), .second, .val (.int sl), .val (.ref b1), .val (.ref b2), .val (.int (own_ms sl.toNatClampNeg)), .unset, .unset, .unset, .unset, .unset, .unset, .unset, .unset, .unset, .unset, .unset, .unset, .unset, .unset, .unset, .unset, .unset, .unset, .unset, .unset, .unset, .unset, .unset, .unset]) rfl ?_
    refine XS.aload X174.here hx rfl (hb hby at_86) rfl rfl ?_
    show Steps p.tables e below (T174.setTop (mkF m 88 #[.val (.int p1), .val (.long p2), .second, .val (.long p3), .second, .val (.long p4), .second, .val (.int sl), .val (.ref b1), .val (.ref b2), .val (.int (own_ms sl.toNatClampNeg)), .unset, .unset, .unset, .unset, .unset, .unset, .unset, .unset, .unset, .unset, .unset, .unset, .unset, .unset, .unset, .unset, .unset, .unset, .unset, .unset, .unset, .unset, .unset, .unset] [(.ref b2)])) _
    refine XS.iload X174.here hx rfl (hb hby at_88) rfl ?_
    show Steps p.tables e below (T174.setTop (mkF m 90 #[.val (.int p1), .val (.long p2), .second, .val (.long p3), .second, .val (.long p4), .second, .val (.int sl), .val (.ref b1), .val (.ref b2), .val (.int (own_ms sl.toNatClampNeg)), .unset, .unset, .unset, .unset, .unset, .unset, .unset, .unset, .unset, .unset, .unset, .unset, .unset, .unset, .unset, .unset, .unset, .unset, .unset, .unset, .unset, .unset, .unset, .unset] [(.int sl), (.ref b2)])) _
    refine ldI X174 hx hZ e174 GB (j := sl) hsl0 hsl7 (v := (.int (own_ks sl.toNatClampNeg))) rfl (g := (mkF m 90 #[.val (.int p1), .val (.long p2), .second, .val (.long p3), .second, .val (.long p4), .second, .val (.int sl), .val (.ref b1), .val (.ref b2), .val (.int (own_ms sl.toNatClampNeg)), .unset, .unset, .unset, .unset, .unset, .unset, .unset, .unset, .unset, .unset, .unset, .unset, .unset, .unset, .unset, .unset, .unset, .unset, .unset, .unset, .unset, .unset, .unset, .unset] [(.int sl), (.ref b2)])) rfl rfl (hb hby at_90) _ ?_
    refine XS.istore X174.here hx rfl (hb hby at_91) rfl (l' := #[.val (.int p1), .val (.long p2), .second, .val (.long p3), .second, .val (.long p4), .second, .val (.int sl), .val (.ref b1), .val (.ref b2), .val (.int (own_ms sl.toNatClampNeg)), .val (.int (own_ks sl.toNatClampNeg)), .unset, .unset, .unset, .unset, .unset, .unset, .unset, .unset, .unset, .unset, .unset, .unset, .unset, .unset, .unset, .unset, .unset, .unset, .unset, .unset, .unset, .unset, .unset]) rfl ?_
    refine XS.iload X174.here hx rfl (hb hby at_93) rfl ?_
    show Steps p.tables e below (T174.setTop (mkF m 95 #[.val (.int p1), .val (.long p2), .second, .val (.long p3), .second, .val (.long p4), .second, .val (.int sl), .val (.ref b1), .val (.ref b2), .val (.int (own_ms sl.toNatClampNeg)), .val (.int (own_ks sl.toNatClampNeg)), .unset, .unset, .unset, .unset, .unset, .unset, .unset, .unset, .unset, .unset, .unset, .unset, .unset, .unset, .unset, .unset, .unset, .unset, .unset, .unset, .unset, .unset, .unset] [(.int (own_ms sl.toNatClampNeg))])) _
    refine XS.iload X174.here hx rfl (hb hby at_95) rfl ?_
    refine XS.iadd X174.here hx rfl (hb hby at_97) rfl ?_
    refine XS.istore X174.here hx rfl (hb hby at_98) rfl (l' := #[.val (.int p1), .val (.long p2), .second, .val (.long p3), .second, .val (.long p4), .second, .val (.int sl), .val (.ref b1), .val (.ref b2), .val (.int (own_ms sl.toNatClampNeg)), .val (.int (own_ks sl.toNatClampNeg)), .val (.int ((own_ms sl.toNatClampNeg) + (own_ks sl.toNatClampNeg))), .unset, .unset, .unset, .unset, .unset, .unset, .unset, .unset, .unset, .unset, .unset, .unset, .unset, .unset, .unset, .unset, .unset, .unset, .unset, .unset, .unset, .unset]) rfl ?_
    exact Steps.refl _
  obtain ⟨nm, hnm⟩ : ∃ z, z = ((own_ms sl.toNatClampNeg) + (own_ks sl.toNatClampNeg)) := ⟨_, rfl⟩
  have r177 : Steps p.tables e below S0 (T174.setTop (mkF m 100 #[.val (.int p1), .val (.long p2), .second, .val (.long p3), .second, .val (.long p4), .second, .val (.int sl), .val (.ref b1), .val (.ref b2), .val (.int (own_ms sl.toNatClampNeg)), .val (.int (own_ks sl.toNatClampNeg)), .val (.int nm), .unset, .unset, .unset, .unset, .unset, .unset, .unset, .unset, .unset, .unset, .unset, .unset, .unset, .unset, .unset, .unset, .unset, .unset, .unset, .unset, .unset, .unset] [])) := by rw [hnm]; exact r176
  obtain ⟨mm, hmm⟩ : ∃ z, z = (own_ms sl.toNatClampNeg) := ⟨_, rfl⟩
  have r178 : Steps p.tables e below S0 (T174.setTop (mkF m 100 #[.val (.int p1), .val (.long p2), .second, .val (.long p3), .second, .val (.long p4), .second, .val (.int sl), .val (.ref b1), .val (.ref b2), .val (.int mm), .val (.int (own_ks sl.toNatClampNeg)), .val (.int nm), .unset, .unset, .unset, .unset, .unset, .unset, .unset, .unset, .unset, .unset, .unset, .unset, .unset, .unset, .unset, .unset, .unset, .unset, .unset, .unset, .unset, .unset] [])) := by rw [hmm]; exact r177
  obtain ⟨kk, hkk⟩ : ∃ z, z = (own_ks sl.toNatClampNeg) := ⟨_, rfl⟩
  have r179 : Steps p.tables e below S0 (T174.setTop (mkF m 100 #[.val (.int p1), .val (.long p2), .second, .val (.long p3), .second, .val (.long p4), .second, .val (.int sl), .val (.ref b1), .val (.ref b2), .val (.int mm), .val (.int kk), .val (.int nm), .unset, .unset, .unset, .unset, .unset, .unset, .unset, .unset, .unset, .unset, .unset, .unset, .unset, .unset, .unset, .unset, .unset, .unset, .unset, .unset, .unset, .unset] [])) := by rw [hkk]; exact r178
  have hcs : (mm = 0 ∧ kk = 0 ∧ nm = 0) ∨ (mm = 0 ∧ kk = 1 ∧ nm = 1) ∨ (mm = 0 ∧ kk = 2 ∧ nm = 2) ∨ (mm = 1 ∧ kk = 0 ∧ nm = 1) ∨ (mm = 2 ∧ kk = 0 ∧ nm = 2) ∨ (mm = 1 ∧ kk = 1 ∧ nm = 2) ∨ (mm = 2 ∧ kk = 2 ∧ nm = 4) := by rw [hnm, hmm, hkk]; rcases hsl2 with z | z | z | z | z | z | z <;> rw [z] <;> decide
  obtain ⟨qq, hqq, rQ⟩ : ∃ qq : Int32, ((nm = 1 ∧ qq = 1) ∨ (nm = 2 ∧ qq = 2) ∨ (¬ nm = 1 ∧ ¬ nm = 2 ∧ qq = 0)) ∧ Steps p.tables e below S0 (T174.setTop (mkF m 120 #[.val (.int p1), .val (.long p2), .second, .val (.long p3), .second, .val (.long p4), .second, .val (.int sl), .val (.ref b1), .val (.ref b2), .val (.int mm), .val (.int kk), .val (.int nm), .val (.int qq), .unset, .unset, .unset, .unset, .unset, .unset, .unset, .unset, .unset, .unset, .unset, .unset, .unset, .unset, .unset, .unset, .unset, .unset, .unset, .unset, .unset] [])) := by
    by_cases h1 : nm = (1 : Int32)
    · skip
      have r180 : Steps p.tables e below S0 (T174.setTop (mkF m 120 #[.val (.int p1), .val (.long p2), .second, .val (.long p3), .second, .val (.long p4), .second, .val (.int sl), .val (.ref b1), .val (.ref b2), .val (.int mm), .val (.int kk), .val (.int nm), .val (.int nm), .unset, .unset, .unset, .unset, .unset, .unset, .unset, .unset, .unset, .unset, .unset, .unset, .unset, .unset, .unset, .unset, .unset, .unset, .unset, .unset, .unset] [])) := by
        refine r179.trans ?_
        show Steps p.tables e below (T174.setTop (mkF m 100 #[.val (.int p1), .val (.long p2), .second, .val (.long p3), .second, .val (.long p4), .second, .val (.int sl), .val (.ref b1), .val (.ref b2), .val (.int mm), .val (.int kk), .val (.int nm), .unset, .unset, .unset, .unset, .unset, .unset, .unset, .unset, .unset, .unset, .unset, .unset, .unset, .unset, .unset, .unset, .unset, .unset, .unset, .unset, .unset, .unset] [])) _
        refine XS.iload X174.here hx rfl (hb hby at_100) rfl ?_
        refine XS.iconst X174.here hx rfl (hb hby at_102) ?_
        refine XS.icmpYes X174.here hx rfl (pc0 := 103) (pc' := 112) rfl (hb hby at_103) rfl (teq h1).1 (by decide) (by decide) ?_
        show Steps p.tables e below (T174.setTop (mkF m 112 #[.val (.int p1), .val (.long p2), .second, .val (.long p3), .second, .val (.long p4), .second, .val (.int sl), .val (.ref b1), .val (.ref b2), .val (.int mm), .val (.int kk), .val (.int nm), .unset, .unset, .unset, .unset, .unset, .unset, .unset, .unset, .unset, .unset, .unset, .unset, .unset, .unset, .unset, .unset, .unset, .unset, .unset, .unset, .unset, .unset] [])) _
        refine XS.iload X174.here hx rfl (hb hby at_112) rfl ?_
        refine XS.goto X174.here hx rfl (pc0 := 114) (pc' := 118) rfl (hb hby at_114) (by decide) (by decide) ?_
        refine XS.istore X174.here hx rfl (hb hby at_118) rfl (l' := #[.val (.int p1), .val (.long p2), .second, .val (.long p3), .second, .val (.long p4), .second, .val (.int sl), .val (.ref b1), .val (.ref b2), .val (.int mm), .val (.int kk), .val (.int nm), .val (.int nm), .unset, .unset, .unset, .unset, .unset, .unset, .unset, .unset, .unset, .unset, .unset, .unset, .unset, .unset, .unset, .unset, .unset, .unset, .unset, .unset, .unset]) rfl ?_
        exact Steps.refl _
      exact ⟨nm, Or.inl ⟨h1, h1⟩, r180⟩
    · by_cases h2 : nm = (2 : Int32)
      · skip
        have r181 : Steps p.tables e below S0 (T174.setTop (mkF m 120 #[.val (.int p1), .val (.long p2), .second, .val (.long p3), .second, .val (.long p4), .second, .val (.int sl), .val (.ref b1), .val (.ref b2), .val (.int mm), .val (.int kk), .val (.int nm), .val (.int nm), .unset, .unset, .unset, .unset, .unset, .unset, .unset, .unset, .unset, .unset, .unset, .unset, .unset, .unset, .unset, .unset, .unset, .unset, .unset, .unset, .unset] [])) := by
          refine r179.trans ?_
          show Steps p.tables e below (T174.setTop (mkF m 100 #[.val (.int p1), .val (.long p2), .second, .val (.long p3), .second, .val (.long p4), .second, .val (.int sl), .val (.ref b1), .val (.ref b2), .val (.int mm), .val (.int kk), .val (.int nm), .unset, .unset, .unset, .unset, .unset, .unset, .unset, .unset, .unset, .unset, .unset, .unset, .unset, .unset, .unset, .unset, .unset, .unset, .unset, .unset, .unset, .unset] [])) _
          refine XS.iload X174.here hx rfl (hb hby at_100) rfl ?_
          refine XS.iconst X174.here hx rfl (hb hby at_102) ?_
          refine XS.icmpNo X174.here hx rfl (hb hby at_103) rfl (feq h1).1 ?_
          show Steps p.tables e below (T174.setTop (mkF m 106 #[.val (.int p1), .val (.long p2), .second, .val (.long p3), .second, .val (.long p4), .second, .val (.int sl), .val (.ref b1), .val (.ref b2), .val (.int mm), .val (.int kk), .val (.int nm), .unset, .unset, .unset, .unset, .unset, .unset, .unset, .unset, .unset, .unset, .unset, .unset, .unset, .unset, .unset, .unset, .unset, .unset, .unset, .unset, .unset, .unset] [])) _
          refine XS.iload X174.here hx rfl (hb hby at_106) rfl ?_
          refine XS.iconst X174.here hx rfl (hb hby at_108) ?_
          refine XS.icmpNo X174.here hx rfl (hb hby at_109) rfl (teq h2).2 ?_
          show Steps p.tables e below (T174.setTop (mkF m 112 #[.val (.int p1), .val (.long p2), .second, .val (.long p3), .second, .val (.long p4), .second, .val (.int sl), .val (.ref b1), .val (.ref b2), .val (.int mm), .val (.int kk), .val (.int nm), .unset, .unset, .unset, .unset, .unset, .unset, .unset, .unset, .unset, .unset, .unset, .unset, .unset, .unset, .unset, .unset, .unset, .unset, .unset, .unset, .unset, .unset] [])) _
          refine XS.iload X174.here hx rfl (hb hby at_112) rfl ?_
          refine XS.goto X174.here hx rfl (pc0 := 114) (pc' := 118) rfl (hb hby at_114) (by decide) (by decide) ?_
          refine XS.istore X174.here hx rfl (hb hby at_118) rfl (l' := #[.val (.int p1), .val (.long p2), .second, .val (.long p3), .second, .val (.long p4), .second, .val (.int sl), .val (.ref b1), .val (.ref b2), .val (.int mm), .val (.int kk), .val (.int nm), .val (.int nm), .unset, .unset, .unset, .unset, .unset, .unset, .unset, .unset, .unset, .unset, .unset, .unset, .unset, .unset, .unset, .unset, .unset, .unset, .unset, .unset, .unset]) rfl ?_
          exact Steps.refl _
        exact ⟨nm, Or.inr (Or.inl ⟨h2, h2⟩), r181⟩
      · skip
        have r182 : Steps p.tables e below S0 (T174.setTop (mkF m 120 #[.val (.int p1), .val (.long p2), .second, .val (.long p3), .second, .val (.long p4), .second, .val (.int sl), .val (.ref b1), .val (.ref b2), .val (.int mm), .val (.int kk), .val (.int nm), .val (.int (0 : Int32)), .unset, .unset, .unset, .unset, .unset, .unset, .unset, .unset, .unset, .unset, .unset, .unset, .unset, .unset, .unset, .unset, .unset, .unset, .unset, .unset, .unset] [])) := by
          refine r179.trans ?_
          show Steps p.tables e below (T174.setTop (mkF m 100 #[.val (.int p1), .val (.long p2), .second, .val (.long p3), .second, .val (.long p4), .second, .val (.int sl), .val (.ref b1), .val (.ref b2), .val (.int mm), .val (.int kk), .val (.int nm), .unset, .unset, .unset, .unset, .unset, .unset, .unset, .unset, .unset, .unset, .unset, .unset, .unset, .unset, .unset, .unset, .unset, .unset, .unset, .unset, .unset, .unset] [])) _
          refine XS.iload X174.here hx rfl (hb hby at_100) rfl ?_
          refine XS.iconst X174.here hx rfl (hb hby at_102) ?_
          refine XS.icmpNo X174.here hx rfl (hb hby at_103) rfl (feq h1).1 ?_
          show Steps p.tables e below (T174.setTop (mkF m 106 #[.val (.int p1), .val (.long p2), .second, .val (.long p3), .second, .val (.long p4), .second, .val (.int sl), .val (.ref b1), .val (.ref b2), .val (.int mm), .val (.int kk), .val (.int nm), .unset, .unset, .unset, .unset, .unset, .unset, .unset, .unset, .unset, .unset, .unset, .unset, .unset, .unset, .unset, .unset, .unset, .unset, .unset, .unset, .unset, .unset] [])) _
          refine XS.iload X174.here hx rfl (hb hby at_106) rfl ?_
          refine XS.iconst X174.here hx rfl (hb hby at_108) ?_
          refine XS.icmpYes X174.here hx rfl (pc0 := 109) (pc' := 117) rfl (hb hby at_109) rfl (feq h2).2 (by decide) (by decide) ?_
          show Steps p.tables e below (T174.setTop (mkF m 117 #[.val (.int p1), .val (.long p2), .second, .val (.long p3), .second, .val (.long p4), .second, .val (.int sl), .val (.ref b1), .val (.ref b2), .val (.int mm), .val (.int kk), .val (.int nm), .unset, .unset, .unset, .unset, .unset, .unset, .unset, .unset, .unset, .unset, .unset, .unset, .unset, .unset, .unset, .unset, .unset, .unset, .unset, .unset, .unset, .unset] [])) _
          refine XS.iconst X174.here hx rfl (hb hby at_117) ?_
          refine XS.istore X174.here hx rfl (hb hby at_118) rfl (l' := #[.val (.int p1), .val (.long p2), .second, .val (.long p3), .second, .val (.long p4), .second, .val (.int sl), .val (.ref b1), .val (.ref b2), .val (.int mm), .val (.int kk), .val (.int nm), .val (.int (0 : Int32)), .unset, .unset, .unset, .unset, .unset, .unset, .unset, .unset, .unset, .unset, .unset, .unset, .unset, .unset, .unset, .unset, .unset, .unset, .unset, .unset, .unset]) rfl ?_
          exact Steps.refl _
        exact ⟨0, Or.inr (Or.inr ⟨h1, h2, rfl⟩), r182⟩
  exact ⟨T174, h174, _, b1, b2, sl, mm, kk, nm, qq, X174, e174, N174, O174, Z174, hcs, hqq, rQ⟩
set_option maxRecDepth 65536 in
set_option maxHeartbeats 40000000 in
theorem sgS {p : Program} {e : Env} {s : State} {m : MethodId} {below : List Frame} {meth : Method} {c : Code} (l : Launch) (Z : State) (a0 : Array Value) (hw : ∀ d ∈ tables_1, d.before a0 Z = true) (p1 : Int32) (p2 p3 p4 : Int64) (hx : p.tables.exec = Jvm.exec) (hby : c.code = code) (hml : c.maxLocals = 35) (hown : s.vm.findClass "org/rowfold/aggregate/MomentsCombinePinLaw" = some m.cls) (hZ : Z.Warmed39 s.vm) (b1 : Addr) (b2 : Addr) (sl : Int32) (mm : Int32) (kk : Int32) (nm : Int32) (qq : Int32) (S0 T0 : State) (h0 : Heap) (L0 : List Loc) (n0 : Nat) (X0 : Stand p l e room_1 s m #[(.int p1), (.long p2), (.long p3), (.long p4)] below meth c T0 L0 2 14) (e0 : T0.heap = h0) (N0 : Fr n0 L0) (O0 : Old Z n0 h0) (Z0 : n0 ≤ h0.size)  (r0 : Steps p.tables e below S0 (T0.setTop (mkF m 120 #[.val (.int p1), .val (.long p2), .second, .val (.long p3), .second, .val (.long p4), .second, .val (.int sl), .val (.ref b1), .val (.ref b2), .val (.int mm), .val (.int kk), .val (.int nm), .val (.int qq), .unset, .unset, .unset, .unset, .unset, .unset, .unset, .unset, .unset, .unset, .unset, .unset, .unset, .unset, .unset, .unset, .unset, .unset, .unset, .unset, .unset] []))) :
    ∃ (T' : State) (L' : List Loc) (x1 x2 y1 y2 z1 z2 : Int32), Stand p l e room_1 s m #[(.int p1), (.long p2), (.long p3), (.long p4)] below meth c T' L' 2 14 ∧ T'.heap = h0 ∧ Fr n0 L' ∧ x1.toInt.natAbs ≤ 1048576 ∧ x2.toInt.natAbs ≤ 1048576 ∧ y1.toInt.natAbs ≤ 1048576 ∧ y2.toInt.natAbs ≤ 1048576 ∧ z1.toInt.natAbs ≤ 1048576 ∧ z2.toInt.natAbs ≤ 1048576 ∧ Steps p.tables e below S0 (T'.setTop (mkF m 173 #[.val (.int p1), .val (.long p2), .second, .val (.long p3), .second, .val (.long p4), .second, .val (.int sl), .val (.ref b1), .val (.ref b2), .val (.int mm), .val (.int kk), .val (.int nm), .val (.int qq), .val (.int x1), .val (.int x2), .val (.int y1), .val (.int y2), .val (.int z1), .val (.int z2), .unset, .unset, .unset, .unset, .unset, .unset, .unset, .unset, .unset, .unset, .unset, .unset, .unset, .unset, .unset] [])) := by
  have r183 : Steps p.tables e below S0 (T0.setTop (mkF m 122 #[.val (.int p1), .val (.long p2), .second, .val (.long p3), .second, .val (.long p4), .second, .val (.int sl), .val (.ref b1), .val (.ref b2), .val (.int mm), .val (.int kk), .val (.int nm), .val (.int qq), .unset, .unset, .unset, .unset, .unset, .unset, .unset, .unset, .unset, .unset, .unset, .unset, .unset, .unset, .unset, .unset, .unset, .unset, .unset, .unset, .unset] [(.int (p2.toInt32))])) := by
    refine r0.trans ?_
    show Steps p.tables e below (T0.setTop (mkF m 120 #[.val (.int p1), .val (.long p2), .second, .val (.long p3), .second, .val (.long p4), .second, .val (.int sl), .val (.ref b1), .val (.ref b2), .val (.int mm), .val (.int kk), .val (.int nm), .val (.int qq), .unset, .unset, .unset, .unset, .unset, .unset, .unset, .unset, .unset, .unset, .unset, .unset, .unset, .unset, .unset, .unset, .unset, .unset, .unset, .unset, .unset] [])) _
    refine XS.lloadN X0.here hx rfl (hb hby at_120) rfl ?_
    show Steps p.tables e below (T0.setTop (mkF m 121 #[.val (.int p1), .val (.long p2), .second, .val (.long p3), .second, .val (.long p4), .second, .val (.int sl), .val (.ref b1), .val (.ref b2), .val (.int mm), .val (.int kk), .val (.int nm), .val (.int qq), .unset, .unset, .unset, .unset, .unset, .unset, .unset, .unset, .unset, .unset, .unset, .unset, .unset, .unset, .unset, .unset, .unset, .unset, .unset, .unset, .unset] [(.long p2)])) _
    refine XS.l2i X0.here hx rfl (hb hby at_121) rfl ?_
    exact Steps.refl _
  obtain ⟨ix1, hix1⟩ : ∃ z, z = (p2.toInt32) := ⟨_, rfl⟩
  have r184 : Steps p.tables e below S0 (T0.setTop (mkF m 122 #[.val (.int p1), .val (.long p2), .second, .val (.long p3), .second, .val (.long p4), .second, .val (.int sl), .val (.ref b1), .val (.ref b2), .val (.int mm), .val (.int kk), .val (.int nm), .val (.int qq), .unset, .unset, .unset, .unset, .unset, .unset, .unset, .unset, .unset, .unset, .unset, .unset, .unset, .unset, .unset, .unset, .unset, .unset, .unset, .unset, .unset] [(.int ix1)])) := by rw [hix1]; exact r183
  obtain ⟨_, _, ⟨T185, L185, k185, n185⟩, -, X185, ⟨Lc185, hQ185, l185, y185, z185⟩, st185⟩ := Jvm.LawKit.callS X0 hx (y := (⟨"org/rowfold/aggregate/MomentsCombinePinLaw", "small", "(I)I"⟩ : MethodName)) hown (mvT hZ (hw _ (List.mem_of_getElem? (i := 2) rfl))) (mvT hZ (hw _ (List.mem_of_getElem? (i := 3) rfl))) (mvT hZ (hw _ (List.mem_of_getElem? (i := 4) rfl))) (mvT hZ (hw _ (List.mem_of_getElem? (i := 5) rfl))) (by decide) (backOf (W := 0) (rmS l Z a0 hw [] ix1 h0 n0 Z0) hZ (hw _ (List.mem_of_getElem? (i := 5) rfl)) (hw _ (List.mem_of_getElem? (i := 4) rfl)) (by decide) (by decide)) (g := (mkF m 122 #[.val (.int p1), .val (.long p2), .second, .val (.long p3), .second, .val (.long p4), .second, .val (.int sl), .val (.ref b1), .val (.ref b2), .val (.int mm), .val (.int kk), .val (.int nm), .val (.int qq), .unset, .unset, .unset, .unset, .unset, .unset, .unset, .unset, .unset, .unset, .unset, .unset, .unset, .unset, .unset, .unset, .unset, .unset, .unset, .unset, .unset] [(.int ix1)])) rfl (by rw [hml]; rfl) (argsL := [(.int ix1)]) (rest := []) (lenOf pd_3 rfl) rfl (by show 2 * 0 + _ ≤ _; exact Nat.le_of_eq rfl) (hb hby at_122) (fun _ _ => ⟨rfl, e0, (by decide : 2 + 0 ≤ _), (by decide : 14 + 0 ≤ _)⟩)
  dsimp only [Pt.U, Pt.locs, Pt.cells, Pt.slots] at X185 l185 y185 z185 st185 hQ185
  subst l185 y185 z185
  obtain ⟨x1, rfl, bx1, Nq185, e185⟩ := hQ185
  have N185 := Fr.app N0 Nq185
  have r186 : Steps p.tables e below S0 (T185.setTop (mkF m 125 #[.val (.int p1), .val (.long p2), .second, .val (.long p3), .second, .val (.long p4), .second, .val (.int sl), .val (.ref b1), .val (.ref b2), .val (.int mm), .val (.int kk), .val (.int nm), .val (.int qq), .unset, .unset, .unset, .unset, .unset, .unset, .unset, .unset, .unset, .unset, .unset, .unset, .unset, .unset, .unset, .unset, .unset, .unset, .unset, .unset, .unset] [(.int x1)])) := r184.trans (st185 _ (Steps.refl _))
  have r187 : Steps p.tables e below S0 (T185.setTop (mkF m 132 #[.val (.int p1), .val (.long p2), .second, .val (.long p3), .second, .val (.long p4), .second, .val (.int sl), .val (.ref b1), .val (.ref b2), .val (.int mm), .val (.int kk), .val (.int nm), .val (.int qq), .val (.int x1), .unset, .unset, .unset, .unset, .unset, .unset, .unset, .unset, .unset, .unset, .unset, .unset, .unset, .unset, .unset, .unset, .unset, .unset, .unset, .unset] [(.int (((p2.toUInt64 >>> ((32 : Int32) &&& 0x3f).toInt64.toUInt64).toInt64).toInt32))])) := by
    refine r186.trans ?_
    show Steps p.tables e below (T185.setTop (mkF m 125 #[.val (.int p1), .val (.long p2), .second, .val (.long p3), .second, .val (.long p4), .second, .val (.int sl), .val (.ref b1), .val (.ref b2), .val (.int mm), .val (.int kk), .val (.int nm), .val (.int qq), .unset, .unset, .unset, .unset, .unset, .unset, .unset, .unset, .unset, .unset, .unset, .unset, .unset, .unset, .unset, .unset, .unset, .unset, .unset, .unset, .unset] [(.int x1)])) _
    refine XS.istore X185.here hx rfl (hb hby at_125) rfl (l' := #[.val (.int p1), .val (.long p2), .second, .val (.long p3), .second, .val (.long p4), .second, .val (.int sl), .val (.ref b1), .val (.ref b2), .val (.int mm), .val (.int kk), .val (.int nm), .val (.int qq), .val (.int x1), .unset, .unset, .unset, .unset, .unset, .unset, .unset, .unset, .unset, .unset, .unset, .unset, .unset, .unset, .unset, .unset, .unset, .unset, .unset, .unset]) rfl ?_
    show Steps p.tables e below (T185.setTop (mkF m 127 #[.val (.int p1), .val (.long p2), .second, .val (.long p3), .second, .val (.long p4), .second, .val (.int sl), .val (.ref b1), .val (.ref b2), .val (.int mm), .val (.int kk), .val (.int nm), .val (.int qq), .val (.int x1), .unset, .unset, .unset, .unset, .unset, .unset, .unset, .unset, .unset, .unset, .unset, .unset, .unset, .unset, .unset, .unset, .unset, .unset, .unset, .unset] [])) _
    refine XS.lloadN X185.here hx rfl (hb hby at_127) rfl ?_
    show Steps p.tables e below (T185.setTop (mkF m 128 #[.val (.int p1), .val (.long p2), .second, .val (.long p3), .second, .val (.long p4), .second, .val (.int sl), .val (.ref b1), .val (.ref b2), .val (.int mm), .val (.int kk), .val (.int nm), .val (.int qq), .val (.int x1), .unset, .unset, .unset, .unset, .unset, .unset, .unset, .unset, .unset, .unset, .unset, .unset, .unset, .unset, .unset, .unset, .unset, .unset, .unset, .unset] [(.long p2)])) _
    refine XS.bipush X185.here hx rfl (hb hby at_128) ?_
    show Steps p.tables e below (T185.setTop (mkF m 130 #[.val (.int p1), .val (.long p2), .second, .val (.long p3), .second, .val (.long p4), .second, .val (.int sl), .val (.ref b1), .val (.ref b2), .val (.int mm), .val (.int kk), .val (.int nm), .val (.int qq), .val (.int x1), .unset, .unset, .unset, .unset, .unset, .unset, .unset, .unset, .unset, .unset, .unset, .unset, .unset, .unset, .unset, .unset, .unset, .unset, .unset, .unset] [(.int (32 : Int32)), (.long p2)])) _
    refine XS.lushr X185.here hx rfl (hb hby at_130) rfl ?_
    show Steps p.tables e below (T185.setTop (mkF m 131 #[.val (.int p1), .val (.long p2), .second, .val (.long p3), .second, .val (.long p4), .second, .val (.int sl), .val (.ref b1), .val (.ref b2), .val (.int mm), .val (.int kk), .val (.int nm), .val (.int qq), .val (.int x1), .unset, .unset, .unset, .unset, .unset, .unset, .unset, .unset, .unset, .unset, .unset, .unset, .unset, .unset, .unset, .unset, .unset, .unset, .unset, .unset] [(.long ((p2.toUInt64 >>> ((32 : Int32) &&& 0x3f).toInt64.toUInt64).toInt64))])) _
    refine XS.l2i X185.here hx rfl (hb hby at_131) rfl ?_
    exact Steps.refl _
  obtain ⟨ix2, hix2⟩ : ∃ z, z = (((p2.toUInt64 >>> ((32 : Int32) &&& 0x3f).toInt64.toUInt64).toInt64).toInt32) := ⟨_, rfl⟩
  have r188 : Steps p.tables e below S0 (T185.setTop (mkF m 132 #[.val (.int p1), .val (.long p2), .second, .val (.long p3), .second, .val (.long p4), .second, .val (.int sl), .val (.ref b1), .val (.ref b2), .val (.int mm), .val (.int kk), .val (.int nm), .val (.int qq), .val (.int x1), .unset, .unset, .unset, .unset, .unset, .unset, .unset, .unset, .unset, .unset, .unset, .unset, .unset, .unset, .unset, .unset, .unset, .unset, .unset, .unset] [(.int ix2)])) := by rw [hix2]; exact r187
  obtain ⟨_, _, ⟨T189, L189, k189, n189⟩, -, X189, ⟨Lc189, hQ189, l189, y189, z189⟩, st189⟩ := Jvm.LawKit.callS X185 hx (y := (⟨"org/rowfold/aggregate/MomentsCombinePinLaw", "small", "(I)I"⟩ : MethodName)) hown (mvT hZ (hw _ (List.mem_of_getElem? (i := 2) rfl))) (mvT hZ (hw _ (List.mem_of_getElem? (i := 3) rfl))) (mvT hZ (hw _ (List.mem_of_getElem? (i := 4) rfl))) (mvT hZ (hw _ (List.mem_of_getElem? (i := 5) rfl))) (by decide) (backOf (W := 0) (rmS l Z a0 hw [] ix2 h0 n0 Z0) hZ (hw _ (List.mem_of_getElem? (i := 5) rfl)) (hw _ (List.mem_of_getElem? (i := 4) rfl)) (by decide) (by decide)) (g := (mkF m 132 #[.val (.int p1), .val (.long p2), .second, .val (.long p3), .second, .val (.long p4), .second, .val (.int sl), .val (.ref b1), .val (.ref b2), .val (.int mm), .val (.int kk), .val (.int nm), .val (.int qq), .val (.int x1), .unset, .unset, .unset, .unset, .unset, .unset, .unset, .unset, .unset, .unset, .unset, .unset, .unset, .unset, .unset, .unset, .unset, .unset, .unset, .unset] [(.int ix2)])) rfl (by rw [hml]; rfl) (argsL := [(.int ix2)]) (rest := []) (lenOf pd_3 rfl) rfl (by show 2 * 0 + _ ≤ _; exact Nat.le_of_eq rfl) (hb hby at_132) (fun _ _ => ⟨rfl, e185, (by decide : (2 + 0) + 0 ≤ _), (by decide : (14 + 0) + 0 ≤ _)⟩)
  dsimp only [Pt.U, Pt.locs, Pt.cells, Pt.slots] at X189 l189 y189 z189 st189 hQ189
  subst l189 y189 z189
  obtain ⟨x2, rfl, bx2, Nq189, e189⟩ := hQ189
  have N189 := Fr.app N185 Nq189
  have r190 : Steps p.tables e below S0 (T189.setTop (mkF m 135 #[.val (.int p1), .val (.long p2), .second, .val (.long p3), .second, .val (.long p4), .second, .val (.int sl), .val (.ref b1), .val (.ref b2), .val (.int mm), .val (.int kk), .val (.int nm), .val (.int qq), .val (.int x1), .unset, .unset, .unset, .unset, .unset, .unset, .unset, .unset, .unset, .unset, .unset, .unset, .unset, .unset, .unset, .unset, .unset, .unset, .unset, .unset] [(.int x2)])) := r188.trans (st189 _ (Steps.refl _))
  have r191 : Steps p.tables e below S0 (T189.setTop (mkF m 139 #[.val (.int p1), .val (.long p2), .second, .val (.long p3), .second, .val (.long p4), .second, .val (.int sl), .val (.ref b1), .val (.ref b2), .val (.int mm), .val (.int kk), .val (.int nm), .val (.int qq), .val (.int x1), .val (.int x2), .unset, .unset, .unset, .unset, .unset, .unset, .unset, .unset, .unset, .unset, .unset, .unset, .unset, .unset, .unset, .unset, .unset, .unset, .unset] [(.int (p3.toInt32))])) := by
    refine r190.trans ?_
    show Steps p.tables e below (T189.setTop (mkF m 135 #[.val (.int p1), .val (.long p2), .second, .val (.long p3), .second, .val (.long p4), .second, .val (.int sl), .val (.ref b1), .val (.ref b2), .val (.int mm), .val (.int kk), .val (.int nm), .val (.int qq), .val (.int x1), .unset, .unset, .unset, .unset, .unset, .unset, .unset, .unset, .unset, .unset, .unset, .unset, .unset, .unset, .unset, .unset, .unset, .unset, .unset, .unset] [(.int x2)])) _
    refine XS.istore X189.here hx rfl (hb hby at_135) rfl (l' := #[.val (.int p1), .val (.long p2), .second, .val (.long p3), .second, .val (.long p4), .second, .val (.int sl), .val (.ref b1), .val (.ref b2), .val (.int mm), .val (.int kk), .val (.int nm), .val (.int qq), .val (.int x1), .val (.int x2), .unset, .unset, .unset, .unset, .unset, .unset, .unset, .unset, .unset, .unset, .unset, .unset, .unset, .unset, .unset, .unset, .unset, .unset, .unset]) rfl ?_
    show Steps p.tables e below (T189.setTop (mkF m 137 #[.val (.int p1), .val (.long p2), .second, .val (.long p3), .second, .val (.long p4), .second, .val (.int sl), .val (.ref b1), .val (.ref b2), .val (.int mm), .val (.int kk), .val (.int nm), .val (.int qq), .val (.int x1), .val (.int x2), .unset, .unset, .unset, .unset, .unset, .unset, .unset, .unset, .unset, .unset, .unset, .unset, .unset, .unset, .unset, .unset, .unset, .unset, .unset] [])) _
    refine XS.lloadN X189.here hx rfl (hb hby at_137) rfl ?_
    show Steps p.tables e below (T189.setTop (mkF m 138 #[.val (.int p1), .val (.long p2), .second, .val (.long p3), .second, .val (.long p4), .second, .val (.int sl), .val (.ref b1), .val (.ref b2), .val (.int mm), .val (.int kk), .val (.int nm), .val (.int qq), .val (.int x1), .val (.int x2), .unset, .unset, .unset, .unset, .unset, .unset, .unset, .unset, .unset, .unset, .unset, .unset, .unset, .unset, .unset, .unset, .unset, .unset, .unset] [(.long p3)])) _
    refine XS.l2i X189.here hx rfl (hb hby at_138) rfl ?_
    exact Steps.refl _
  obtain ⟨iy1, hiy1⟩ : ∃ z, z = (p3.toInt32) := ⟨_, rfl⟩
  have r192 : Steps p.tables e below S0 (T189.setTop (mkF m 139 #[.val (.int p1), .val (.long p2), .second, .val (.long p3), .second, .val (.long p4), .second, .val (.int sl), .val (.ref b1), .val (.ref b2), .val (.int mm), .val (.int kk), .val (.int nm), .val (.int qq), .val (.int x1), .val (.int x2), .unset, .unset, .unset, .unset, .unset, .unset, .unset, .unset, .unset, .unset, .unset, .unset, .unset, .unset, .unset, .unset, .unset, .unset, .unset] [(.int iy1)])) := by rw [hiy1]; exact r191
  obtain ⟨_, _, ⟨T193, L193, k193, n193⟩, -, X193, ⟨Lc193, hQ193, l193, y193, z193⟩, st193⟩ := Jvm.LawKit.callS X189 hx (y := (⟨"org/rowfold/aggregate/MomentsCombinePinLaw", "small", "(I)I"⟩ : MethodName)) hown (mvT hZ (hw _ (List.mem_of_getElem? (i := 2) rfl))) (mvT hZ (hw _ (List.mem_of_getElem? (i := 3) rfl))) (mvT hZ (hw _ (List.mem_of_getElem? (i := 4) rfl))) (mvT hZ (hw _ (List.mem_of_getElem? (i := 5) rfl))) (by decide) (backOf (W := 0) (rmS l Z a0 hw [] iy1 h0 n0 Z0) hZ (hw _ (List.mem_of_getElem? (i := 5) rfl)) (hw _ (List.mem_of_getElem? (i := 4) rfl)) (by decide) (by decide)) (g := (mkF m 139 #[.val (.int p1), .val (.long p2), .second, .val (.long p3), .second, .val (.long p4), .second, .val (.int sl), .val (.ref b1), .val (.ref b2), .val (.int mm), .val (.int kk), .val (.int nm), .val (.int qq), .val (.int x1), .val (.int x2), .unset, .unset, .unset, .unset, .unset, .unset, .unset, .unset, .unset, .unset, .unset, .unset, .unset, .unset, .unset, .unset, .unset, .unset, .unset] [(.int iy1)])) rfl (by rw [hml]; rfl) (argsL := [(.int iy1)]) (rest := []) (lenOf pd_3 rfl) rfl (by show 2 * 0 + _ ≤ _; exact Nat.le_of_eq rfl) (hb hby at_139) (fun _ _ => ⟨rfl, e189, (by decide : ((2 + 0) + 0) + 0 ≤ _), (by decide : ((14 + 0) + 0) + 0 ≤ _)⟩)
  dsimp only [Pt.U, Pt.locs, Pt.cells, Pt.slots] at X193 l193 y193 z193 st193 hQ193
  subst l193 y193 z193
  obtain ⟨y1, rfl, by1, Nq193, e193⟩ := hQ193
  have N193 := Fr.app N189 Nq193
  have r194 : Steps p.tables e below S0 (T193.setTop (mkF m 142 #[.val (.int p1), .val (.long p2), .second, .val (.long p3), .second, .val (.long p4), .second, .val (.int sl), .val (.ref b1), .val (.ref b2), .val (.int mm), .val (.int kk), .val (.int nm), .val (.int qq), .val (.int x1), .val (.int x2), .unset, .unset, .unset, .unset, .unset, .unset, .unset, .unset, .unset, .unset, .unset, .unset, .unset, .unset, .unset, .unset, .unset, .unset, .unset] [(.int y1)])) := r192.trans (st193 _ (Steps.refl _))
  have r195 : Steps p.tables e below S0 (T193.setTop (mkF m 149 #[.val (.int p1), .val (.long p2), .second, .val (.long p3), .second, .val (.long p4), .second, .val (.int sl), .val (.ref b1), .val (.ref b2), .val (.int mm), .val (.int kk), .val (.int nm), .val (.int qq), .val (.int x1), .val (.int x2), .val (.int y1), .unset, .unset, .unset, .unset, .unset, .unset, .unset, .unset, .unset, .unset, .unset, .unset, .unset, .unset, .unset, .unset, .unset, .unset] [(.int (((p3.toUInt64 >>> ((32 : Int32) &&& 0x3f).toInt64.toUInt64).toInt64).toInt32))])) := by
    refine r194.trans ?_
    show Steps p.tables e below (T193.setTop (mkF m 142 #[.val (.int p1), .val (.long p2), .second, .val (.long p3), .second, .val (.long p4), .second, .val (.int sl), .val (.ref b1), .val (.ref b2), .val (.int mm), .val (.int kk), .val (.int nm), .val (.int qq), .val (.int x1), .val (.int x2), .unset, .unset, .unset, .unset, .unset, .unset, .unset, .unset, .unset, .unset, .unset, .unset, .unset, .unset, .unset, .unset, .unset, .unset, .unset] [(.int y1)])) _
    refine XS.istore X193.here hx rfl (hb hby at_142) rfl (l' := #[.val (.int p1), .val (.long p2), .second, .val (.long p3), .second, .val (.long p4), .second, .val (.int sl), .val (.ref b1), .val (.ref b2), .val (.int mm), .val (.int kk), .val (.int nm), .val (.int qq), .val (.int x1), .val (.int x2), .val (.int y1), .unset, .unset, .unset, .unset, .unset, .unset, .unset, .unset, .unset, .unset, .unset, .unset, .unset, .unset, .unset, .unset, .unset, .unset]) rfl ?_
    show Steps p.tables e below (T193.setTop (mkF m 144 #[.val (.int p1), .val (.long p2), .second, .val (.long p3), .second, .val (.long p4), .second, .val (.int sl), .val (.ref b1), .val (.ref b2), .val (.int mm), .val (.int kk), .val (.int nm), .val (.int qq), .val (.int x1), .val (.int x2), .val (.int y1), .unset, .unset, .unset, .unset, .unset, .unset, .unset, .unset, .unset, .unset, .unset, .unset, .unset, .unset, .unset, .unset, .unset, .unset] [])) _
    refine XS.lloadN X193.here hx rfl (hb hby at_144) rfl ?_
    show Steps p.tables e below (T193.setTop (mkF m 145 #[.val (.int p1), .val (.long p2), .second, .val (.long p3), .second, .val (.long p4), .second, .val (.int sl), .val (.ref b1), .val (.ref b2), .val (.int mm), .val (.int kk), .val (.int nm), .val (.int qq), .val (.int x1), .val (.int x2), .val (.int y1), .unset, .unset, .unset, .unset, .unset, .unset, .unset, .unset, .unset, .unset, .unset, .unset, .unset, .unset, .unset, .unset, .unset, .unset] [(.long p3)])) _
    refine XS.bipush X193.here hx rfl (hb hby at_145) ?_
    show Steps p.tables e below (T193.setTop (mkF m 147 #[.val (.int p1), .val (.long p2), .second, .val (.long p3), .second, .val (.long p4), .second, .val (.int sl), .val (.ref b1), .val (.ref b2), .val (.int mm), .val (.int kk), .val (.int nm), .val (.int qq), .val (.int x1), .val (.int x2), .val (.int y1), .unset, .unset, .unset, .unset, .unset, .unset, .unset, .unset, .unset, .unset, .unset, .unset, .unset, .unset, .unset, .unset, .unset, .unset] [(.int (32 : Int32)), (.long p3)])) _
    refine XS.lushr X193.here hx rfl (hb hby at_147) rfl ?_
    show Steps p.tables e below (T193.setTop (mkF m 148 #[.val (.int p1), .val (.long p2), .second, .val (.long p3), .second, .val (.long p4), .second, .val (.int sl), .val (.ref b1), .val (.ref b2), .val (.int mm), .val (.int kk), .val (.int nm), .val (.int qq), .val (.int x1), .val (.int x2), .val (.int y1), .unset, .unset, .unset, .unset, .unset, .unset, .unset, .unset, .unset, .unset, .unset, .unset, .unset, .unset, .unset, .unset, .unset, .unset] [(.long ((p3.toUInt64 >>> ((32 : Int32) &&& 0x3f).toInt64.toUInt64).toInt64))])) _
    refine XS.l2i X193.here hx rfl (hb hby at_148) rfl ?_
    exact Steps.refl _
  obtain ⟨iy2, hiy2⟩ : ∃ z, z = (((p3.toUInt64 >>> ((32 : Int32) &&& 0x3f).toInt64.toUInt64).toInt64).toInt32) := ⟨_, rfl⟩
  have r196 : Steps p.tables e below S0 (T193.setTop (mkF m 149 #[.val (.int p1), .val (.long p2), .second, .val (.long p3), .second, .val (.long p4), .second, .val (.int sl), .val (.ref b1), .val (.ref b2), .val (.int mm), .val (.int kk), .val (.int nm), .val (.int qq), .val (.int x1), .val (.int x2), .val (.int y1), .unset, .unset, .unset, .unset, .unset, .unset, .unset, .unset, .unset, .unset, .unset, .unset, .unset, .unset, .unset, .unset, .unset, .unset] [(.int iy2)])) := by rw [hiy2]; exact r195
  obtain ⟨_, _, ⟨T197, L197, k197, n197⟩, -, X197, ⟨Lc197, hQ197, l197, y197, z197⟩, st197⟩ := Jvm.LawKit.callS X193 hx (y := (⟨"org/rowfold/aggregate/MomentsCombinePinLaw", "small", "(I)I"⟩ : MethodName)) hown (mvT hZ (hw _ (List.mem_of_getElem? (i := 2) rfl))) (mvT hZ (hw _ (List.mem_of_getElem? (i := 3) rfl))) (mvT hZ (hw _ (List.mem_of_getElem? (i := 4) rfl))) (mvT hZ (hw _ (List.mem_of_getElem? (i := 5) rfl))) (by decide) (backOf (W := 0) (rmS l Z a0 hw [] iy2 h0 n0 Z0) hZ (hw _ (List.mem_of_getElem? (i := 5) rfl)) (hw _ (List.mem_of_getElem? (i := 4) rfl)) (by decide) (by decide)) (g := (mkF m 149 #[.val (.int p1), .val (.long p2), .second, .val (.long p3), .second, .val (.long p4), .second, .val (.int sl), .val (.ref b1), .val (.ref b2), .val (.int mm), .val (.int kk), .val (.int nm), .val (.int qq), .val (.int x1), .val (.int x2), .val (.int y1), .unset, .unset, .unset, .unset, .unset, .unset, .unset, .unset, .unset, .unset, .unset, .unset, .unset, .unset, .unset, .unset, .unset, .unset] [(.int iy2)])) rfl (by rw [hml]; rfl) (argsL := [(.int iy2)]) (rest := []) (lenOf pd_3 rfl) rfl (by show 2 * 0 + _ ≤ _; exact Nat.le_of_eq rfl) (hb hby at_149) (fun _ _ => ⟨rfl, e193, (by decide : (((2 + 0) + 0) + 0) + 0 ≤ _), (by decide : (((14 + 0) + 0) + 0) + 0 ≤ _)⟩)
  dsimp only [Pt.U, Pt.locs, Pt.cells, Pt.slots] at X197 l197 y197 z197 st197 hQ197
  subst l197 y197 z197
  obtain ⟨y2, rfl, by2, Nq197, e197⟩ := hQ197
  have N197 := Fr.app N193 Nq197
  have r198 : Steps p.tables e below S0 (T197.setTop (mkF m 152 #[.val (.int p1), .val (.long p2), .second, .val (.long p3), .second, .val (.long p4), .second, .val (.int sl), .val (.ref b1), .val (.ref b2), .val (.int mm), .val (.int kk), .val (.int nm), .val (.int qq), .val (.int x1), .val (.int x2), .val (.int y1), .unset, .unset, .unset, .unset, .unset, .unset, .unset, .unset, .unset, .unset, .unset, .unset, .unset, .unset, .unset, .unset, .unset, .unset] [(.int y2)])) := r196.trans (st197 _ (Steps.refl _))
  have r199 : Steps p.tables e below S0 (T197.setTop (mkF m 157 #[.val (.int p1), .val (.long p2), .second, .val (.long p3), .second, .val (.long p4), .second, .val (.int sl), .val (.ref b1), .val (.ref b2), .val (.int mm), .val (.int kk), .val (.int nm), .val (.int qq), .val (.int x1), .val (.int x2), .val (.int y1), .val (.int y2), .unset, .unset, .unset, .unset, .unset, .unset, .unset, .unset, .unset, .unset, .unset, .unset, .unset, .unset, .unset, .unset, .unset] [(.int (p4.toInt32))])) := by
    refine r198.trans ?_
    show Steps p.tables e below (T197.setTop (mkF m 152 #[.val (.int p1), .val (.long p2), .second, .val (.long p3), .second, .val (.long p4), .second, .val (.int sl), .val (.ref b1), .val (.ref b2), .val (.int mm), .val (.int kk), .val (.int nm), .val (.int qq), .val (.int x1), .val (.int x2), .val (.int y1), .unset, .unset, .unset, .unset, .unset, .unset, .unset, .unset, .unset, .unset, .unset, .unset, .unset, .unset, .unset, .unset, .unset, .unset] [(.int y2)])) _
    refine XS.istore X197.here hx rfl (hb hby at_152) rfl (l' := #[.val (.int p1), .val (.long p2), .second, .val (.long p3), .second, .val (.long p4), .second, .val (.int sl), .val (.ref b1), .val (.ref b2), .val (.int mm), .val (.int kk), .val (.int nm), .val (.int qq), .val (.int x1), .val (.int x2), .val (.int y1), .val (.int y2), .unset, .unset, .unset, .unset, .unset, .unset, .unset, .unset, .unset, .unset, .unset, .unset, .unset, .unset, .unset, .unset, .unset]) rfl ?_
    show Steps p.tables e below (T197.setTop (mkF m 154 #[.val (.int p1), .val (.long p2), .second, .val (.long p3), .second, .val (.long p4), .second, .val (.int sl), .val (.ref b1), .val (.ref b2), .val (.int mm), .val (.int kk), .val (.int nm), .val (.int qq), .val (.int x1), .val (.int x2), .val (.int y1), .val (.int y2), .unset, .unset, .unset, .unset, .unset, .unset, .unset, .unset, .unset, .unset, .unset, .unset, .unset, .unset, .unset, .unset, .unset] [])) _
    refine XS.lload X197.here hx rfl (hb hby at_154) rfl ?_
    show Steps p.tables e below (T197.setTop (mkF m 156 #[.val (.int p1), .val (.long p2), .second, .val (.long p3), .second, .val (.long p4), .second, .val (.int sl), .val (.ref b1), .val (.ref b2), .val (.int mm), .val (.int kk), .val (.int nm), .val (.int qq), .val (.int x1), .val (.int x2), .val (.int y1), .val (.int y2), .unset, .unset, .unset, .unset, .unset, .unset, .unset, .unset, .unset, .unset, .unset, .unset, .unset, .unset, .unset, .unset, .unset] [(.long p4)])) _
    refine XS.l2i X197.here hx rfl (hb hby at_156) rfl ?_
    exact Steps.refl _
  obtain ⟨iz1, hiz1⟩ : ∃ z, z = (p4.toInt32) := ⟨_, rfl⟩
  have r200 : Steps p.tables e below S0 (T197.setTop (mkF m 157 #[.val (.int p1), .val (.long p2), .second, .val (.long p3), .second, .val (.long p4), .second, .val (.int sl), .val (.ref b1), .val (.ref b2), .val (.int mm), .val (.int kk), .val (.int nm), .val (.int qq), .val (.int x1), .val (.int x2), .val (.int y1), .val (.int y2), .unset, .unset, .unset, .unset, .unset, .unset, .unset, .unset, .unset, .unset, .unset, .unset, .unset, .unset, .unset, .unset, .unset] [(.int iz1)])) := by rw [hiz1]; exact r199
  obtain ⟨_, _, ⟨T201, L201, k201, n201⟩, -, X201, ⟨Lc201, hQ201, l201, y201, z201⟩, st201⟩ := Jvm.LawKit.callS X197 hx (y := (⟨"org/rowfold/aggregate/MomentsCombinePinLaw", "small", "(I)I"⟩ : MethodName)) hown (mvT hZ (hw _ (List.mem_of_getElem? (i := 2) rfl))) (mvT hZ (hw _ (List.mem_of_getElem? (i := 3) rfl))) (mvT hZ (hw _ (List.mem_of_getElem? (i := 4) rfl))) (mvT hZ (hw _ (List.mem_of_getElem? (i := 5) rfl))) (by decide) (backOf (W := 0) (rmS l Z a0 hw [] iz1 h0 n0 Z0) hZ (hw _ (List.mem_of_getElem? (i := 5) rfl)) (hw _ (List.mem_of_getElem? (i := 4) rfl)) (by decide) (by decide)) (g := (mkF m 157 #[.val (.int p1), .val (.long p2), .second, .val (.long p3), .second, .val (.long p4), .second, .val (.int sl), .val (.ref b1), .val (.ref b2), .val (.int mm), .val (.int kk), .val (.int nm), .val (.int qq), .val (.int x1), .val (.int x2), .val (.int y1), .val (.int y2), .unset, .unset, .unset, .unset, .unset, .unset, .unset, .unset, .unset, .unset, .unset, .unset, .unset, .unset, .unset, .unset, .unset] [(.int iz1)])) rfl (by rw [hml]; rfl) (argsL := [(.int iz1)]) (rest := []) (lenOf pd_3 rfl) rfl (by show 2 * 0 + _ ≤ _; exact Nat.le_of_eq rfl) (hb hby at_157) (fun _ _ => ⟨rfl, e197, (by decide : ((((2 + 0) + 0) + 0) + 0) + 0 ≤ _), (by decide : ((((14 + 0) + 0) + 0) + 0) + 0 ≤ _)⟩)
  dsimp only [Pt.U, Pt.locs, Pt.cells, Pt.slots] at X201 l201 y201 z201 st201 hQ201
  subst l201 y201 z201
  obtain ⟨z1, rfl, bz1, Nq201, e201⟩ := hQ201
  have N201 := Fr.app N197 Nq201
  have r202 : Steps p.tables e below S0 (T201.setTop (mkF m 160 #[.val (.int p1), .val (.long p2), .second, .val (.long p3), .second, .val (.long p4), .second, .val (.int sl), .val (.ref b1), .val (.ref b2), .val (.int mm), .val (.int kk), .val (.int nm), .val (.int qq), .val (.int x1), .val (.int x2), .val (.int y1), .val (.int y2), .unset, .unset, .unset, .unset, .unset, .unset, .unset, .unset, .unset, .unset, .unset, .unset, .unset, .unset, .unset, .unset, .unset] [(.int z1)])) := r200.trans (st201 _ (Steps.refl _))
  have r203 : Steps p.tables e below S0 (T201.setTop (mkF m 168 #[.val (.int p1), .val (.long p2), .second, .val (.long p3), .second, .val (.long p4), .second, .val (.int sl), .val (.ref b1), .val (.ref b2), .val (.int mm), .val (.int kk), .val (.int nm), .val (.int qq), .val (.int x1), .val (.int x2), .val (.int y1), .val (.int y2), .val (.int z1), .unset, .unset, .unset, .unset, .unset, .unset, .unset, .unset, .unset, .unset, .unset, .unset, .unset, .unset, .unset, .unset] [(.int (((p4.toUInt64 >>> ((32 : Int32) &&& 0x3f).toInt64.toUInt64).toInt64).toInt32))])) := by
    refine r202.trans ?_
    show Steps p.tables e below (T201.setTop (mkF m 160 #[.val (.int p1), .val (.long p2), .second, .val (.long p3), .second, .val (.long p4), .second, .val (.int sl), .val (.ref b1), .val (.ref b2), .val (.int mm), .val (.int kk), .val (.int nm), .val (.int qq), .val (.int x1), .val (.int x2), .val (.int y1), .val (.int y2), .unset, .unset, .unset, .unset, .unset, .unset, .unset, .unset, .unset, .unset, .unset, .unset, .unset, .unset, .unset, .unset, .unset] [(.int z1)])) _
    refine XS.istore X201.here hx rfl (hb hby at_160) rfl (l' := #[.val (.int p1), .val (.long p2), .second, .val (.long p3), .second, .val (.long p4), .second, .val (.int sl), .val (.ref b1), .val (.ref b2), .val (.int mm), .val (.int kk), .val (.int nm), .val (.int qq), .val (.int x1), .val (.int x2), .val (.int y1), .val (.int y2), .val (.int z1), .unset, .unset, .unset, .unset, .unset, .unset, .unset, .unset, .unset, .unset, .unset, .unset, .unset, .unset, .unset, .unset]) rfl ?_
    show Steps p.tables e below (T201.setTop (mkF m 162 #[.val (.int p1), .val (.long p2), .second, .val (.long p3), .second, .val (.long p4), .second, .val (.int sl), .val (.ref b1), .val (.ref b2), .val (.int mm), .val (.int kk), .val (.int nm), .val (.int qq), .val (.int x1), .val (.int x2), .val (.int y1), .val (.int y2), .val (.int z1), .unset, .unset, .unset, .unset, .unset, .unset, .unset, .unset, .unset, .unset, .unset, .unset, .unset, .unset, .unset, .unset] [])) _
    refine XS.lload X201.here hx rfl (hb hby at_162) rfl ?_
    show Steps p.tables e below (T201.setTop (mkF m 164 #[.val (.int p1), .val (.long p2), .second, .val (.long p3), .second, .val (.long p4), .second, .val (.int sl), .val (.ref b1), .val (.ref b2), .val (.int mm), .val (.int kk), .val (.int nm), .val (.int qq), .val (.int x1), .val (.int x2), .val (.int y1), .val (.int y2), .val (.int z1), .unset, .unset, .unset, .unset, .unset, .unset, .unset, .unset, .unset, .unset, .unset, .unset, .unset, .unset, .unset, .unset] [(.long p4)])) _
    refine XS.bipush X201.here hx rfl (hb hby at_164) ?_
    show Steps p.tables e below (T201.setTop (mkF m 166 #[.val (.int p1), .val (.long p2), .second, .val (.long p3), .second, .val (.long p4), .second, .val (.int sl), .val (.ref b1), .val (.ref b2), .val (.int mm), .val (.int kk), .val (.int nm), .val (.int qq), .val (.int x1), .val (.int x2), .val (.int y1), .val (.int y2), .val (.int z1), .unset, .unset, .unset, .unset, .unset, .unset, .unset, .unset, .unset, .unset, .unset, .unset, .unset, .unset, .unset, .unset] [(.int (32 : Int32)), (.long p4)])) _
    refine XS.lushr X201.here hx rfl (hb hby at_166) rfl ?_
    show Steps p.tables e below (T201.setTop (mkF m 167 #[.val (.int p1), .val (.long p2), .second, .val (.long p3), .second, .val (.long p4), .second, .val (.int sl), .val (.ref b1), .val (.ref b2), .val (.int mm), .val (.int kk), .val (.int nm), .val (.int qq), .val (.int x1), .val (.int x2), .val (.int y1), .val (.int y2), .val (.int z1), .unset, .unset, .unset, .unset, .unset, .unset, .unset, .unset, .unset, .unset, .unset, .unset, .unset, .unset, .unset, .unset] [(.long ((p4.toUInt64 >>> ((32 : Int32) &&& 0x3f).toInt64.toUInt64).toInt64))])) _
    refine XS.l2i X201.here hx rfl (hb hby at_167) rfl ?_
    exact Steps.refl _
  obtain ⟨iz2, hiz2⟩ : ∃ z, z = (((p4.toUInt64 >>> ((32 : Int32) &&& 0x3f).toInt64.toUInt64).toInt64).toInt32) := ⟨_, rfl⟩
  have r204 : Steps p.tables e below S0 (T201.setTop (mkF m 168 #[.val (.int p1), .val (.long p2), .second, .val (.long p3), .second, .val (.long p4), .second, .val (.int sl), .val (.ref b1), .val (.ref b2), .val (.int mm), .val (.int kk), .val (.int nm), .val (.int qq), .val (.int x1), .val (.int x2), .val (.int y1), .val (.int y2), .val (.int z1), .unset, .unset, .unset, .unset, .unset, .unset, .unset, .unset, .unset, .unset, .unset, .unset, .unset, .unset, .unset, .unset] [(.int iz2)])) := by rw [hiz2]; exact r203
  obtain ⟨_, _, ⟨T205, L205, k205, n205⟩, -, X205, ⟨Lc205, hQ205, l205, y205, z205⟩, st205⟩ := Jvm.LawKit.callS X201 hx (y := (⟨"org/rowfold/aggregate/MomentsCombinePinLaw", "small", "(I)I"⟩ : MethodName)) hown (mvT hZ (hw _ (List.mem_of_getElem? (i := 2) rfl))) (mvT hZ (hw _ (List.mem_of_getElem? (i := 3) rfl))) (mvT hZ (hw _ (List.mem_of_getElem? (i := 4) rfl))) (mvT hZ (hw _ (List.mem_of_getElem? (i := 5) rfl))) (by decide) (backOf (W := 0) (rmS l Z a0 hw [] iz2 h0 n0 Z0) hZ (hw _ (List.mem_of_getElem? (i := 5) rfl)) (hw _ (List.mem_of_getElem? (i := 4) rfl)) (by decide) (by decide)) (g := (mkF m 168 #[.val (.int p1), .val (.long p2), .second, .val (.long p3), .second, .val (.long p4), .second, .val (.int sl), .val (.ref b1), .val (.ref b2), .val (.int mm), .val (.int kk), .val (.int nm), .val (.int qq), .val (.int x1), .val (.int x2), .val (.int y1), .val (.int y2), .val (.int z1), .unset, .unset, .unset, .unset, .unset, .unset, .unset, .unset, .unset, .unset, .unset, .unset, .unset, .unset, .unset, .unset] [(.int iz2)])) rfl (by rw [hml]; rfl) (argsL := [(.int iz2)]) (rest := []) (lenOf pd_3 rfl) rfl (by show 2 * 0 + _ ≤ _; exact Nat.le_of_eq rfl) (hb hby at_168) (fun _ _ => ⟨rfl, e201, (by decide : (((((2 + 0) + 0) + 0) + 0) + 0) + 0 ≤ _), (by decide : (((((14 + 0) + 0) + 0) + 0) + 0) + 0 ≤ _)⟩)
  dsimp only [Pt.U, Pt.locs, Pt.cells, Pt.slots] at X205 l205 y205 z205 st205 hQ205
  subst l205 y205 z205
  obtain ⟨z2, rfl, bz2, Nq205, e205⟩ := hQ205
  have N205 := Fr.app N201 Nq205
  have r206 : Steps p.tables e below S0 (T205.setTop (mkF m 171 #[.val (.int p1), .val (.long p2), .second, .val (.long p3), .second, .val (.long p4), .second, .val (.int sl), .val (.ref b1), .val (.ref b2), .val (.int mm), .val (.int kk), .val (.int nm), .val (.int qq), .val (.int x1), .val (.int x2), .val (.int y1), .val (.int y2), .val (.int z1), .unset, .unset, .unset, .unset, .unset, .unset, .unset, .unset, .unset, .unset, .unset, .unset, .unset, .unset, .unset, .unset] [(.int z2)])) := r204.trans (st205 _ (Steps.refl _))
  have r207 : Steps p.tables e below S0 (T205.setTop (mkF m 173 #[.val (.int p1), .val (.long p2), .second, .val (.long p3), .second, .val (.long p4), .second, .val (.int sl), .val (.ref b1), .val (.ref b2), .val (.int mm), .val (.int kk), .val (.int nm), .val (.int qq), .val (.int x1), .val (.int x2), .val (.int y1), .val (.int y2), .val (.int z1), .val (.int z2), .unset, .unset, .unset, .unset, .unset, .unset, .unset, .unset, .unset, .unset, .unset, .unset, .unset, .unset, .unset] [])) := by
    refine r206.trans ?_
    show Steps p.tables e below (T205.setTop (mkF m 171 #[.val (.int p1), .val (.long p2), .second, .val (.long p3), .second, .val (.long p4), .second, .val (.int sl), .val (.ref b1), .val (.ref b2), .val (.int mm), .val (.int kk), .val (.int nm), .val (.int qq), .val (.int x1), .val (.int x2), .val (.int y1), .val (.int y2), .val (.int z1), .unset, .unset, .unset, .unset, .unset, .unset, .unset, .unset, .unset, .unset, .unset, .unset, .unset, .unset, .unset, .unset] [(.int z2)])) _
    refine XS.istore X205.here hx rfl (hb hby at_171) rfl (l' := #[.val (.int p1), .val (.long p2), .second, .val (.long p3), .second, .val (.long p4), .second, .val (.int sl), .val (.ref b1), .val (.ref b2), .val (.int mm), .val (.int kk), .val (.int nm), .val (.int qq), .val (.int x1), .val (.int x2), .val (.int y1), .val (.int y2), .val (.int z1), .val (.int z2), .unset, .unset, .unset, .unset, .unset, .unset, .unset, .unset, .unset, .unset, .unset, .unset, .unset, .unset, .unset]) rfl ?_
    exact Steps.refl _
  exact ⟨T205, _, x1, x2, y1, y2, z1, z2, X205, e205, N205, bx1, bx2, by1, by2, bz1, bz2, r207⟩
set_option maxRecDepth 65536 in
set_option maxHeartbeats 40000000 in
theorem sgN {p : Program} {e : Env} {s : State} {m : MethodId} {below : List Frame} {meth : Method} {c : Code} (l : Launch) (Z : State) (a0 : Array Value) (hw : ∀ d ∈ tables_1, d.before a0 Z = true) (p1 : Int32) (p2 p3 p4 : Int64) (hx : p.tables.exec = Jvm.exec) (hby : c.code = code) (hml : c.maxLocals = 35) (hown : s.vm.findClass "org/rowfold/aggregate/MomentsCombinePinLaw" = some m.cls) (hZ : Z.Warmed39 s.vm) (b1 : Addr) (b2 : Addr) (sl : Int32) (mm : Int32) (kk : Int32) (nm : Int32) (qq : Int32) (x1 : Int32) (x2 : Int32) (y1 : Int32) (y2 : Int32) (z1 : Int32) (z2 : Int32) (S0 T0 : State) (h0 : Heap) (L0 : List Loc) (n0 : Nat) (X0 : Stand p l e room_1 s m #[(.int p1), (.long p2), (.long p3), (.long p4)] below meth c T0 L0 2 14) (e0 : T0.heap = h0) (N0 : Fr n0 L0) (O0 : Old Z n0 h0) (Z0 : n0 ≤ h0.size)  (r0 : Steps p.tables e below S0 (T0.setTop (mkF m 173 #[.val (.int p1), .val (.long p2), .second, .val (.long p3), .second, .val (.long p4), .second, .val (.int sl), .val (.ref b1), .val (.ref b2), .val (.int mm), .val (.int kk), .val (.int nm), .val (.int qq), .val (.int x1), .val (.int x2), .val (.int y1), .val (.int y2), .val (.int z1), .val (.int z2), .unset, .unset, .unset, .unset, .unset, .unset, .unset, .unset, .unset, .unset, .unset, .unset, .unset, .unset, .unset] []))) :
    ∃ (T' : State) (h' : Heap) (L' : List Loc) (oa ob oc : Addr), Stand p l e room_1 s m #[(.int p1), (.long p2), (.long p3), (.long p4)] below meth c T' L' 5 23 ∧ T'.heap = h' ∧ Fr n0 L' ∧ Old Z n0 h' ∧ n0 ≤ h'.size ∧ n0 ≤ oa ∧ n0 ≤ ob ∧ n0 ≤ oc ∧ oa ≠ ob ∧ oa ≠ oc ∧ ob ≠ oc ∧ Exa Z h' oa "org/rowfold/aggregate/Moments" ∧ Exa Z h' ob "org/rowfold/aggregate/Moments" ∧ Exa Z h' oc "org/rowfold/aggregate/Moments" ∧ Fld Z h' oa "org/rowfold/aggregate/Moments" "count" "J" (.long (0 : Int64)) ∧ Fld Z h' oa "org/rowfold/aggregate/Moments" "mean" "D" (.double (0 : UInt64)) ∧ Fld Z h' oa "org/rowfold/aggregate/Moments" "squares" "D" (.double (0 : UInt64)) ∧ Fld Z h' ob "org/rowfold/aggregate/Moments" "count" "J" (.long (0 : Int64)) ∧ Fld Z h' ob "org/rowfold/aggregate/Moments" "mean" "D" (.double (0 : UInt64)) ∧ Fld Z h' ob "org/rowfold/aggregate/Moments" "squares" "D" (.double (0 : UInt64)) ∧ Fld Z h' oc "org/rowfold/aggregate/Moments" "count" "J" (.long (0 : Int64)) ∧ Fld Z h' oc "org/rowfold/aggregate/Moments" "mean" "D" (.double (0 : UInt64)) ∧ Fld Z h' oc "org/rowfold/aggregate/Moments" "squares" "D" (.double (0 : UInt64)) ∧ Steps p.tables e below S0 (T'.setTop (mkF m 203 #[.val (.int p1), .val (.long p2), .second, .val (.long p3), .second, .val (.long p4), .second, .val (.int sl), .val (.ref b1), .val (.ref b2), .val (.int mm), .val (.int kk), .val (.int nm), .val (.int qq), .val (.int x1), .val (.int x2), .val (.int y1), .val (.int y2), .val (.int z1), .val (.int z2), .val (.ref oa), .val (.ref ob), .val (.ref oc), .unset, .unset, .unset, .unset, .unset, .unset, .unset, .unset, .unset, .unset, .unset, .unset] [(.int (1 : Int32)), (.int mm)])) := by
  obtain ⟨T208, h208, X208, e208, E208, A208, D208, -, st208⟩ := newO X0 hx hZ hown (hw _ (List.mem_of_getElem? (i := 6) rfl)) (hw _ (List.mem_of_getElem? (i := 7) rfl)) (hw _ (List.mem_of_getElem? (i := 8) rfl)) e0 (g := (mkF m 173 #[.val (.int p1), .val (.long p2), .second, .val (.long p3), .second, .val (.long p4), .second, .val (.int sl), .val (.ref b1), .val (.ref b2), .val (.int mm), .val (.int kk), .val (.int nm), .val (.int qq), .val (.int x1), .val (.int x2), .val (.int y1), .val (.int y2), .val (.int z1), .val (.int z2), .unset, .unset, .unset, .unset, .unset, .unset, .unset, .unset, .unset, .unset, .unset, .unset, .unset, .unset, .unset] [])) rfl (hb hby at_173) (by decide) (by decide)
  obtain ⟨oa, g208⟩ : ∃ z, z = h0.size := ⟨_, rfl⟩
  rw [← g208] at A208 D208 st208
  have g_oa : n0 ≤ oa := Nat.le_trans Z0 (Nat.le_of_eq g208.symm)
  have Z208 : n0 ≤ h208.size := Nat.le_trans Z0 E208.1
  have O208 := O0.ext E208
  have F_oa_count : Fld Z h208 oa "org/rowfold/aggregate/Moments" "count" "J" (.long (0 : Int64)) := D208 (Or.inl (hw _ (List.mem_of_getElem? (i := 21) rfl))) (ty := .long) (by decide)
  have F_oa_mean : Fld Z h208 oa "org/rowfold/aggregate/Moments" "mean" "D" (.double (0 : UInt64)) := D208 (Or.inl (hw _ (List.mem_of_getElem? (i := 51) rfl))) (ty := .double) (by decide)
  have F_oa_squares : Fld Z h208 oa "org/rowfold/aggregate/Moments" "squares" "D" (.double (0 : UInt64)) := D208 (Or.inl (hw _ (List.mem_of_getElem? (i := 53) rfl))) (ty := .double) (by decide)
  have r209 : Steps p.tables e below S0 (T208.setTop (mkF m 176 #[.val (.int p1), .val (.long p2), .second, .val (.long p3), .second, .val (.long p4), .second, .val (.int sl), .val (.ref b1), .val (.ref b2), .val (.int mm), .val (.int kk), .val (.int nm), .val (.int qq), .val (.int x1), .val (.int x2), .val (.int y1), .val (.int y2), .val (.int z1), .val (.int z2), .unset, .unset, .unset, .unset, .unset, .unset, .unset, .unset, .unset, .unset, .unset, .unset, .unset, .unset, .unset] [(.ref oa)])) := r0.trans (st208 _ (Steps.refl _))
  have r210 : Steps p.tables e below S0 (T208.setTop (mkF m 177 #[.val (.int p1), .val (.long p2), .second, .val (.long p3), .second, .val (.long p4), .second, .val (.int sl), .val (.ref b1), .val (.ref b2), .val (.int mm), .val (.int kk), .val (.int nm), .val (.int qq), .val (.int x1), .val (.int x2), .val (.int y1), .val (.int y2), .val (.int z1), .val (.int z2), .unset, .unset, .unset, .unset, .unset, .unset, .unset, .unset, .unset, .unset, .unset, .unset, .unset, .unset, .unset] [(.ref oa), (.ref oa)])) := by
    refine r209.trans ?_
    show Steps p.tables e below (T208.setTop (mkF m 176 #[.val (.int p1), .val (.long p2), .second, .val (.long p3), .second, .val (.long p4), .second, .val (.int sl), .val (.ref b1), .val (.ref b2), .val (.int mm), .val (.int kk), .val (.int nm), .val (.int qq), .val (.int x1), .val (.int x2), .val (.int y1), .val (.int y2), .val (.int z1), .val (.int z2), .unset, .unset, .unset, .unset, .unset, .unset, .unset, .unset, .unset, .unset, .unset, .unset, .unset, .unset, .unset] [(.ref oa)])) _
    refine XS.dup X208.here hx rfl (hb hby at_176) rfl rfl ?_
    exact Steps.refl _
  obtain ⟨_, _, ⟨T211, L211, k211, n211⟩, -, X211, ⟨Lc211, hQ211, l211, y211, z211⟩, st211⟩ := X208.specialBack hx (y := (⟨"org/rowfold/aggregate/Moments", "<init>", "()V"⟩ : MethodName)) rfl hown (mvT hZ (hw _ (List.mem_of_getElem? (i := 9) rfl))) (mvT hZ (hw _ (List.mem_of_getElem? (i := 10) rfl))) (mvT hZ (hw _ (List.mem_of_getElem? (i := 11) rfl))) (by decide) (backOf (W := 1) (rmI l Z a0 hw [] oa h208 n0 Z208) hZ (hw _ (List.mem_of_getElem? (i := 11) rfl)) (hw _ (List.mem_of_getElem? (i := 8) rfl)) (by decide) (by decide)) (g := (mkF m 177 #[.val (.int p1), .val (.long p2), .second, .val (.long p3), .second, .val (.long p4), .second, .val (.int sl), .val (.ref b1), .val (.ref b2), .val (.int mm), .val (.int kk), .val (.int nm), .val (.int qq), .val (.int x1), .val (.int x2), .val (.int y1), .val (.int y2), .val (.int z1), .val (.int z2), .unset, .unset, .unset, .unset, .unset, .unset, .unset, .unset, .unset, .unset, .unset, .unset, .unset, .unset, .unset] [(.ref oa), (.ref oa)])) rfl (by rw [hml]; rfl) (Steps.refl _) (a := oa) (argsL := []) (rest := [(.ref oa)]) (lenOf pd_4 rfl) rfl (by show 2 * 0 + _ ≤ _; exact Nat.le_of_eq rfl) (hb hby at_177) (fun _ _ => ⟨rfl, e208, (by decide : (2 + 1) + 0 ≤ _), (by decide : (14 + 3) + 0 ≤ _)⟩)
  dsimp only [Pt.U, Pt.locs, Pt.cells, Pt.slots] at X211 l211 y211 z211 st211 hQ211
  subst l211 y211 z211
  obtain ⟨rfl, Nq211, e211⟩ := hQ211
  have N211 := Fr.app N0 Nq211
  have r212 : Steps p.tables e below S0 (T211.setTop (mkF m 180 #[.val (.int p1), .val (.long p2), .second, .val (.long p3), .second, .val (.long p4), .second, .val (.int sl), .val (.ref b1), .val (.ref b2), .val (.int mm), .val (.int kk), .val (.int nm), .val (.int qq), .val (.int x1), .val (.int x2), .val (.int y1), .val (.int y2), .val (.int z1), .val (.int z2), .unset, .unset, .unset, .unset, .unset, .unset, .unset, .unset, .unset, .unset, .unset, .unset, .unset, .unset, .unset] [(.ref oa)])) := r210.trans st211
  have r213 : Steps p.tables e below S0 (T211.setTop (mkF m 182 #[.val (.int p1), .val (.long p2), .second, .val (.long p3), .second, .val (.long p4), .second, .val (.int sl), .val (.ref b1), .val (.ref b2), .val (.int mm), .val (.int kk), .val (.int nm), .val (.int qq), .val (.int x1), .val (.int x2), .val (.int y1), .val (.int y2), .val (.int z1), .val (.int z2), .val (.ref oa), .unset, .unset, .unset, .unset, .unset, .unset, .unset, .unset, .unset, .unset, .unset, .unset, .unset, .unset] [])) := by
    refine r212.trans ?_
    show Steps p.tables e below (T211.setTop (mkF m 180 #[.val (.int p1), .val (.long p2), .second, .val (.long p3), .second, .val (.long p4), .second, .val (.int sl), .val (.ref b1), .val (.ref b2), .val (.int mm), .val (.int kk), .val (.int nm), .val (.int qq), .val (.int x1), .val (.int x2), .val (.int y1), .val (.int y2), .val (.int z1), .val (.int z2), .unset, .unset, .unset, .unset, .unset, .unset, .unset, .unset, .unset, .unset, .unset, .unset, .unset, .unset, .unset] [(.ref oa)])) _
    refine XS.astore X211.here hx rfl (hb hby at_180) rfl rfl (l' := #[.val (.int p1), .val (.long p2), .second, .val (.long p3), .second, .val (.long p4), .second, .val (.int sl), .val (.ref b1), .val (.ref b2), .val (.int mm), .val (.int kk), .val (.int nm), .val (.int qq), .val (.int x1), .val (.int x2), .val (.int y1), .val (.int y2), .val (.int z1), .val (.int z2), .val (.ref oa), .unset, .unset, .unset, .unset, .unset, .unset, .unset, .unset, .unset, .unset, .unset, .unset, .unset, .unset]) rfl ?_
    exact Steps.refl _
  obtain ⟨T214, h214, X214, e214, E214, A214, D214, -, st214⟩ := newO X211 hx hZ hown (hw _ (List.mem_of_getElem? (i := 6) rfl)) (hw _ (List.mem_of_getElem? (i := 7) rfl)) (hw _ (List.mem_of_getElem? (i := 8) rfl)) e211 (g := (mkF m 182 #[.val (.int p1), .val (.long p2), .second, .val (.long p3), .second, .val (.long p4), .second, .val (.int sl), .val (.ref b1), .val (.ref b2), .val (.int mm), .val (.int kk), .val (.int nm), .val (.int qq), .val (.int x1), .val (.int x2), .val (.int y1), .val (.int y2), .val (.int z1), .val (.int z2), .val (.ref oa), .unset, .unset, .unset, .unset, .unset, .unset, .unset, .unset, .unset, .unset, .unset, .unset, .unset, .unset] [])) rfl (hb hby at_182) (by decide) (by decide)
  obtain ⟨ob, g214⟩ : ∃ z, z = h208.size := ⟨_, rfl⟩
  rw [← g214] at A214 D214 st214
  have ne_oa_ob : oa ≠ ob := Nat.ne_of_lt (by rw [g214]; exact A208.lt)
  have g_ob : n0 ≤ ob := Nat.le_trans Z208 (Nat.le_of_eq g214.symm)
  have F214_oa_count := F_oa_count.ext E214
  have F214_oa_mean := F_oa_mean.ext E214
  have F214_oa_squares := F_oa_squares.ext E214
  have E214_oa := A208.ext E214
  have Z214 : n0 ≤ h214.size := Nat.le_trans Z208 E214.1
  have O214 := O208.ext E214
  have F_ob_count : Fld Z h214 ob "org/rowfold/aggregate/Moments" "count" "J" (.long (0 : Int64)) := D214 (Or.inl (hw _ (List.mem_of_getElem? (i := 21) rfl))) (ty := .long) (by decide)
  have F_ob_mean : Fld Z h214 ob "org/rowfold/aggregate/Moments" "mean" "D" (.double (0 : UInt64)) := D214 (Or.inl (hw _ (List.mem_of_getElem? (i := 51) rfl))) (ty := .double) (by decide)
  have F_ob_squares : Fld Z h214 ob "org/rowfold/aggregate/Moments" "squares" "D" (.double (0 : UInt64)) := D214 (Or.inl (hw _ (List.mem_of_getElem? (i := 53) rfl))) (ty := .double) (by decide)
  have r215 : Steps p.tables e below S0 (T214.setTop (mkF m 185 #[.val (.int p1), .val (.long p2), .second, .val (.long p3), .second, .val (.long p4), .second, .val (.int sl), .val (.ref b1), .val (.ref b2), .val (.int mm), .val (.int kk), .val (.int nm), .val (.int qq), .val (.int x1), .val (.int x2), .val (.int y1), .val (.int y2), .val (.int z1), .val (.int z2), .val (.ref oa), .unset, .unset, .unset, .unset, .unset, .unset, .unset, .unset, .unset, .unset, .unset, .unset, .unset, .unset] [(.ref ob)])) := r213.trans (st214 _ (Steps.refl _))
  have r216 : Steps p.tables e below S0 (T214.setTop (mkF m 186 #[.val (.int p1), .val (.long p2), .second, .val (.long p3), .second, .val (.long p4), .second, .val (.int sl), .val (.ref b1), .val (.ref b2), .val (.int mm), .val (.int kk), .val (.int nm), .val (.int qq), .val (.int x1), .val (.int x2), .val (.int y1), .val (.int y2), .val (.int z1), .val (.int z2), .val (.ref oa), .unset, .unset, .unset, .unset, .unset, .unset, .unset, .unset, .unset, .unset, .unset, .unset, .unset, .unset] [(.ref ob), (.ref ob)])) := by
    refine r215.trans ?_
    show Steps p.tables e below (T214.setTop (mkF m 185 #[.val (.int p1), .val (.long p2), .second, .val (.long p3), .second, .val (.long p4), .second, .val (.int sl), .val (.ref b1), .val (.ref b2), .val (.int mm), .val (.int kk), .val (.int nm), .val (.int qq), .val (.int x1), .val (.int x2), .val (.int y1), .val (.int y2), .val (.int z1), .val (.int z2), .val (.ref oa), .unset, .unset, .unset, .unset, .unset, .unset, .unset, .unset, .unset, .unset, .unset, .unset, .unset, .unset] [(.ref ob)])) _
    refine XS.dup X214.here hx rfl (hb hby at_185) rfl rfl ?_
    exact Steps.refl _
  obtain ⟨_, _, ⟨T217, L217, k217, n217⟩, -, X217, ⟨Lc217, hQ217, l217, y217, z217⟩, st217⟩ := X214.specialBack hx (y := (⟨"org/rowfold/aggregate/Moments", "<init>", "()V"⟩ : MethodName)) rfl hown (mvT hZ (hw _ (List.mem_of_getElem? (i := 9) rfl))) (mvT hZ (hw _ (List.mem_of_getElem? (i := 10) rfl))) (mvT hZ (hw _ (List.mem_of_getElem? (i := 11) rfl))) (by decide) (backOf (W := 1) (rmI l Z a0 hw [] ob h214 n0 Z214) hZ (hw _ (List.mem_of_getElem? (i := 11) rfl)) (hw _ (List.mem_of_getElem? (i := 8) rfl)) (by decide) (by decide)) (g := (mkF m 186 #[.val (.int p1), .val (.long p2), .second, .val (.long p3), .second, .val (.long p4), .second, .val (.int sl), .val (.ref b1), .val (.ref b2), .val (.int mm), .val (.int kk), .val (.int nm), .val (.int qq), .val (.int x1), .val (.int x2), .val (.int y1), .val (.int y2), .val (.int z1), .val (.int z2), .val (.ref oa), .unset, .unset, .unset, .unset, .unset, .unset, .unset, .unset, .unset, .unset, .unset, .unset, .unset, .unset] [(.ref ob), (.ref ob)])) rfl (by rw [hml]; rfl) (Steps.refl _) (a := ob) (argsL := []) (rest := [(.ref ob)]) (lenOf pd_4 rfl) rfl (by show 2 * 0 + _ ≤ _; exact Nat.le_of_eq rfl) (hb hby at_186) (fun _ _ => ⟨rfl, e214, (by decide : (((2 + 1) + 0) + 1) + 0 ≤ _), (by decide : (((14 + 3) + 0) + 3) + 0 ≤ _)⟩)
  dsimp only [Pt.U, Pt.locs, Pt.cells, Pt.slots] at X217 l217 y217 z217 st217 hQ217
  subst l217 y217 z217
  obtain ⟨rfl, Nq217, e217⟩ := hQ217
  have N217 := Fr.app N211 Nq217
  have r218 : Steps p.tables e below S0 (T217.setTop (mkF m 189 #[.val (.int p1), .val (.long p2), .second, .val (.long p3), .second, .val (.long p4), .second, .val (.int sl), .val (.ref b1), .val (.ref b2), .val (.int mm), .val (.int kk), .val (.int nm), .val (.int qq), .val (.int x1), .val (.int x2), .val (.int y1), .val (.int y2), .val (.int z1), .val (.int z2), .val (.ref oa), .unset, .unset, .unset, .unset, .unset, .unset, .unset, .unset, .unset, .unset, .unset, .unset, .unset, .unset] [(.ref ob)])) := r216.trans st217
  have r219 : Steps p.tables e below S0 (T217.setTop (mkF m 191 #[.val (.int p1), .val (.long p2), .second, .val (.long p3), .second, .val (.long p4), .second, .val (.int sl), .val (.ref b1), .val (.ref b2), .val (.int mm), .val (.int kk), .val (.int nm), .val (.int qq), .val (.int x1), .val (.int x2), .val (.int y1), .val (.int y2), .val (.int z1), .val (.int z2), .val (.ref oa), .val (.ref ob), .unset, .unset, .unset, .unset, .unset, .unset, .unset, .unset, .unset, .unset, .unset, .unset, .unset] [])) := by
    refine r218.trans ?_
    show Steps p.tables e below (T217.setTop (mkF m 189 #[.val (.int p1), .val (.long p2), .second, .val (.long p3), .second, .val (.long p4), .second, .val (.int sl), .val (.ref b1), .val (.ref b2), .val (.int mm), .val (.int kk), .val (.int nm), .val (.int qq), .val (.int x1), .val (.int x2), .val (.int y1), .val (.int y2), .val (.int z1), .val (.int z2), .val (.ref oa), .unset, .unset, .unset, .unset, .unset, .unset, .unset, .unset, .unset, .unset, .unset, .unset, .unset, .unset] [(.ref ob)])) _
    refine XS.astore X217.here hx rfl (hb hby at_189) rfl rfl (l' := #[.val (.int p1), .val (.long p2), .second, .val (.long p3), .second, .val (.long p4), .second, .val (.int sl), .val (.ref b1), .val (.ref b2), .val (.int mm), .val (.int kk), .val (.int nm), .val (.int qq), .val (.int x1), .val (.int x2), .val (.int y1), .val (.int y2), .val (.int z1), .val (.int z2), .val (.ref oa), .val (.ref ob), .unset, .unset, .unset, .unset, .unset, .unset, .unset, .unset, .unset, .unset, .unset, .unset, .unset]) rfl ?_
    exact Steps.refl _
  obtain ⟨T220, h220, X220, e220, E220, A220, D220, -, st220⟩ := newO X217 hx hZ hown (hw _ (List.mem_of_getElem? (i := 6) rfl)) (hw _ (List.mem_of_getElem? (i := 7) rfl)) (hw _ (List.mem_of_getElem? (i := 8) rfl)) e217 (g := (mkF m 191 #[.val (.int p1), .val (.long p2), .second, .val (.long p3), .second, .val (.long p4), .second, .val (.int sl), .val (.ref b1), .val (.ref b2), .val (.int mm), .val (.int kk), .val (.int nm), .val (.int qq), .val (.int x1), .val (.int x2), .val (.int y1), .val (.int y2), .val (.int z1), .val (.int z2), .val (.ref oa), .val (.ref ob), .unset, .unset, .unset, .unset, .unset, .unset, .unset, .unset, .unset, .unset, .unset, .unset, .unset] [])) rfl (hb hby at_191) (by decide) (by decide)
  obtain ⟨oc, g220⟩ : ∃ z, z = h214.size := ⟨_, rfl⟩
  rw [← g220] at A220 D220 st220
  have ne_oa_oc : oa ≠ oc := Nat.ne_of_lt (by rw [g220]; exact E214_oa.lt)
  have ne_ob_oc : ob ≠ oc := Nat.ne_of_lt (by rw [g220]; exact A214.lt)
  have g_oc : n0 ≤ oc := Nat.le_trans Z214 (Nat.le_of_eq g220.symm)
  have F220_oa_count := F214_oa_count.ext E220
  have F220_oa_mean := F214_oa_mean.ext E220
  have F220_oa_squares := F214_oa_squares.ext E220
  have F220_ob_count := F_ob_count.ext E220
  have F220_ob_mean := F_ob_mean.ext E220
  have F220_ob_squares := F_ob_squares.ext E220
  have E220_oa := E214_oa.ext E220
  have E220_ob := A214.ext E220
  have Z220 : n0 ≤ h220.size := Nat.le_trans Z214 E220.1
  have O220 := O214.ext E220
  have F_oc_count : Fld Z h220 oc "org/rowfold/aggregate/Moments" "count" "J" (.long (0 : Int64)) := D220 (Or.inl (hw _ (List.mem_of_getElem? (i := 21) rfl))) (ty := .long) (by decide)
  have F_oc_mean : Fld Z h220 oc "org/rowfold/aggregate/Moments" "mean" "D" (.double (0 : UInt64)) := D220 (Or.inl (hw _ (List.mem_of_getElem? (i := 51) rfl))) (ty := .double) (by decide)
  have F_oc_squares : Fld Z h220 oc "org/rowfold/aggregate/Moments" "squares" "D" (.double (0 : UInt64)) := D220 (Or.inl (hw _ (List.mem_of_getElem? (i := 53) rfl))) (ty := .double) (by decide)
  have r221 : Steps p.tables e below S0 (T220.setTop (mkF m 194 #[.val (.int p1), .val (.long p2), .second, .val (.long p3), .second, .val (.long p4), .second, .val (.int sl), .val (.ref b1), .val (.ref b2), .val (.int mm), .val (.int kk), .val (.int nm), .val (.int qq), .val (.int x1), .val (.int x2), .val (.int y1), .val (.int y2), .val (.int z1), .val (.int z2), .val (.ref oa), .val (.ref ob), .unset, .unset, .unset, .unset, .unset, .unset, .unset, .unset, .unset, .unset, .unset, .unset, .unset] [(.ref oc)])) := r219.trans (st220 _ (Steps.refl _))
  have r222 : Steps p.tables e below S0 (T220.setTop (mkF m 195 #[.val (.int p1), .val (.long p2), .second, .val (.long p3), .second, .val (.long p4), .second, .val (.int sl), .val (.ref b1), .val (.ref b2), .val (.int mm), .val (.int kk), .val (.int nm), .val (.int qq), .val (.int x1), .val (.int x2), .val (.int y1), .val (.int y2), .val (.int z1), .val (.int z2), .val (.ref oa), .val (.ref ob), .unset, .unset, .unset, .unset, .unset, .unset, .unset, .unset, .unset, .unset, .unset, .unset, .unset] [(.ref oc), (.ref oc)])) := by
    refine r221.trans ?_
    show Steps p.tables e below (T220.setTop (mkF m 194 #[.val (.int p1), .val (.long p2), .second, .val (.long p3), .second, .val (.long p4), .second, .val (.int sl), .val (.ref b1), .val (.ref b2), .val (.int mm), .val (.int kk), .val (.int nm), .val (.int qq), .val (.int x1), .val (.int x2), .val (.int y1), .val (.int y2), .val (.int z1), .val (.int z2), .val (.ref oa), .val (.ref ob), .unset, .unset, .unset, .unset, .unset, .unset, .unset, .unset, .unset, .unset, .unset, .unset, .unset] [(.ref oc)])) _
    refine XS.dup X220.here hx rfl (hb hby at_194) rfl rfl ?_
    exact Steps.refl _
  obtain ⟨_, _, ⟨T223, L223, k223, n223⟩, -, X223, ⟨Lc223, hQ223, l223, y223, z223⟩, st223⟩ := X220.specialBack hx (y := (⟨"org/rowfold/aggregate/Moments", "<init>", "()V"⟩ : MethodName)) rfl hown (mvT hZ (hw _ (List.mem_of_getElem? (i := 9) rfl))) (mvT hZ (hw _ (List.mem_of_getElem? (i := 10) rfl))) (mvT hZ (hw _ (List.mem_of_getElem? (i := 11) rfl))) (by decide) (backOf (W := 1) (rmI l Z a0 hw [] oc h220 n0 Z220) hZ (hw _ (List.mem_of_getElem? (i := 11) rfl)) (hw _ (List.mem_of_getElem? (i := 8) rfl)) (by decide) (by decide)) (g := (mkF m 195 #[.val (.int p1), .val (.long p2), .second, .val (.long p3), .second, .val (.long p4), .second, .val (.int sl), .val (.ref b1), .val (.ref b2), .val (.int mm), .val (.int kk), .val (.int nm), .val (.int qq), .val (.int x1), .val (.int x2), .val (.int y1), .val (.int y2), .val (.int z1), .val (.int z2), .val (.ref oa), .val (.ref ob), .unset, .unset, .unset, .unset, .unset, .unset, .unset, .unset, .unset, .unset, .unset, .unset, .unset] [(.ref oc), (.ref oc)])) rfl (by rw [hml]; rfl) (Steps.refl _) (a := oc) (argsL := []) (rest := [(.ref oc)]) (lenOf pd_4 rfl) rfl (by show 2 * 0 + _ ≤ _; exact Nat.le_of_eq rfl) (hb hby at_195) (fun _ _ => ⟨rfl, e220, (by decide : (((((2 + 1) + 0) + 1) + 0) + 1) + 0 ≤ _), (by decide : (((((14 + 3) + 0) + 3) + 0) + 3) + 0 ≤ _)⟩)
  dsimp only [Pt.U, Pt.locs, Pt.cells, Pt.slots] at X223 l223 y223 z223 st223 hQ223
  subst l223 y223 z223
  obtain ⟨rfl, Nq223, e223⟩ := hQ223
  have N223 := Fr.app N217 Nq223
  have r224 : Steps p.tables e below S0 (T223.setTop (mkF m 198 #[.val (.int p1), .val (.long p2), .second, .val (.long p3), .second, .val (.long p4), .second, .val (.int sl), .val (.ref b1), .val (.ref b2), .val (.int mm), .val (.int kk), .val (.int nm), .val (.int qq), .val (.int x1), .val (.int x2), .val (.int y1), .val (.int y2), .val (.int z1), .val (.int z2), .val (.ref oa), .val (.ref ob), .unset, .unset, .unset, .unset, .unset, .unset, .unset, .unset, .unset, .unset, .unset, .unset, .unset] [(.ref oc)])) := r222.trans st223
  have r225 : Steps p.tables e below S0 (T223.setTop (mkF m 203 #[.val (.int p1), .val (.long p2), .second, .val (.long p3), .second, .val (.long p4), .second, .val (.int sl), .val (.ref b1), .val (.ref b2), .val (.int mm), .val (.int kk), .val (.int nm), .val (.int qq), .val (.int x1), .val (.int x2), .val (.int y1), .val (.int y2), .val (.int z1), .val (.int z2), .val (.ref oa), .val (.ref ob), .val (.ref oc), .unset, .unset, .unset, .unset, .unset, .unset, .unset, .unset, .unset, .unset, .unset, .unset] [(.int (1 : Int32)), (.int mm)])) := by
    refine r224.trans ?_
    show Steps p.tables e below (T223.setTop (mkF m 198 #[.val (.int p1), .val (.long p2), .second, .val (.long p3), .second, .val (.long p4), .second, .val (.int sl), .val (.ref b1), .val (.ref b2), .val (.int mm), .val (.int kk), .val (.int nm), .val (.int qq), .val (.int x1), .val (.int x2), .val (.int y1), .val (.int y2), .val (.int z1), .val (.int z2), .val (.ref oa), .val (.ref ob), .unset, .unset, .unset, .unset, .unset, .unset, .unset, .unset, .unset, .unset, .unset, .unset, .unset] [(.ref oc)])) _
    refine XS.astore X223.here hx rfl (hb hby at_198) rfl rfl (l' := #[.val (.int p1), .val (.long p2), .second, .val (.long p3), .second, .val (.long p4), .second, .val (.int sl), .val (.ref b1), .val (.ref b2), .val (.int mm), .val (.int kk), .val (.int nm), .val (.int qq), .val (.int x1), .val (.int x2), .val (.int y1), .val (.int y2), .val (.int z1), .val (.int z2), .val (.ref oa), .val (.ref ob), .val (.ref oc), .unset, .unset, .unset, .unset, .unset, .unset, .unset, .unset, .unset, .unset, .unset, .unset]) rfl ?_
    show Steps p.tables e below (T223.setTop (mkF m 200 #[.val (.int p1), .val (.long p2), .second, .val (.long p3), .second, .val (.long p4), .second, .val (.int sl), .val (.ref b1), .val (.ref b2), .val (.int mm), .val (.int kk), .val (.int nm), .val (.int qq), .val (.int x1), .val (.int x2), .val (.int y1), .val (.int y2), .val (.int z1), .val (.int z2), .val (.ref oa), .val (.ref ob), .val (.ref oc), .unset, .unset, .unset, .unset, .unset, .unset, .unset, .unset, .unset, .unset, .unset, .unset] [])) _
    refine XS.iload X223.here hx rfl (hb hby at_200) rfl ?_
    show Steps p.tables e below (T223.setTop (mkF m 202 #[.val (.int p1), .val (.long p2), .second, .val (.long p3), .second, .val (.long p4), .second, .val (.int sl), .val (.ref b1), .val (.ref b2), .val (.int mm), .val (.int kk), .val (.int nm), .val (.int qq), .val (.int x1), .val (.int x2), .val (.int y1), .val (.int y2), .val (.int z1), .val (.int z2), .val (.ref oa), .val (.ref ob), .val (.ref oc), .unset, .unset, .unset, .unset, .unset, .unset, .unset, .unset, .unset, .unset, .unset, .unset] [(.int mm)])) _
    refine XS.iconst X223.here hx rfl (hb hby at_202) ?_
    exact Steps.refl _
  exact ⟨T223, h220, _, oa, ob, oc, X223, e223, N223, O220, Z220, g_oa, g_ob, g_oc, ne_oa_ob, ne_oa_oc, ne_ob_oc, E220_oa, E220_ob, A220, F220_oa_count, F220_oa_mean, F220_oa_squares, F220_ob_count, F220_ob_mean, F220_ob_squares, F_oc_count, F_oc_mean, F_oc_squares, r225⟩
set_option maxRecDepth 65536 in
set_option maxHeartbeats 40000000 in
theorem sgB0 {p : Program} {e : Env} {s : State} {m : MethodId} {below : List Frame} {meth : Method} {c : Code} (l : Launch) (Z : State) (a0 : Array Value) (hw : ∀ d ∈ tables_1, d.before a0 Z = true) (p1 : Int32) (p2 p3 p4 : Int64) (hx : p.tables.exec = Jvm.exec) (hby : c.code = code) (hml : c.maxLocals = 35) (hown : s.vm.findClass "org/rowfold/aggregate/MomentsCombinePinLaw" = some m.cls) (hZ : Z.Warmed39 s.vm) (b1 : Addr) (b2 : Addr) (sl : Int32) (mm : Int32) (kk : Int32) (nm : Int32) (qq : Int32) (x1 : Int32) (x2 : Int32) (y1 : Int32) (y2 : Int32) (z1 : Int32) (z2 : Int32) (oa : Addr) (ob : Addr) (oc : Addr) (B0 : Int) (B1 : Int) (B2 : Int) (B3 : Int) (B4 : Int) (B5 : Int) (SX : Int) (SQ : Int) (S0 T0 : State) (h0 : Heap) (L0 : List Loc) (n0 : Nat) (X0 : Stand p l e room_1 s m #[(.int p1), (.long p2), (.long p3), (.long p4)] below meth c T0 L0 5 23) (e0 : T0.heap = h0) (N0 : Fr n0 L0) (O0 : Old Z n0 h0) (Z0 : n0 ≤ h0.size) (bx1 : x1.toInt.natAbs ≤ 1048576) (bx2 : x2.toInt.natAbs ≤ 1048576) (by1 : y1.toInt.natAbs ≤ 1048576) (by2 : y2.toInt.natAbs ≤ 1048576) (bz1 : z1.toInt.natAbs ≤ 1048576) (bz2 : z2.toInt.natAbs ≤ 1048576) (g_oa : n0 ≤ oa) (g_ob : n0 ≤ ob) (g_oc : n0 ≤ oc) (ne_ab : oa ≠ ob) (ne_ac : oa ≠ oc) (ne_bc : ob ≠ oc) (E_oa : Exa Z h0 oa "org/rowfold/aggregate/Moments") (E_ob : Exa Z h0 ob "org/rowfold/aggregate/Moments") (E_oc : Exa Z h0 oc "org/rowfold/aggregate/Moments") (F_oa_count : Fld Z h0 oa "org/rowfold/aggregate/Moments" "count" "J" (.long (0 : Int64))) (F_oa_mean : Fld Z h0 oa "org/rowfold/aggregate/Moments" "mean" "D" (.double (0 : UInt64))) (F_oa_squares : Fld Z h0 oa "org/rowfold/aggregate/Moments" "squares" "D" (.double (0 : UInt64))) (F_ob_count : Fld Z h0 ob "org/rowfold/aggregate/Moments" "count" "J" (.long (0 : Int64))) (F_ob_mean : Fld Z h0 ob "org/rowfold/aggregate/Moments" "mean" "D" (.double (0 : UInt64))) (F_ob_squares : Fld Z h0 ob "org/rowfold/aggregate/Moments" "squares" "D" (.double (0 : UInt64))) (F_oc_count : Fld Z h0 oc "org/rowfold/aggregate/Moments" "count" "J" (.long (0 : Int64))) (F_oc_mean : Fld Z h0 oc "org/rowfold/aggregate/Moments" "mean" "D" (.double (0 : UInt64))) (F_oc_squares : Fld Z h0 oc "org/rowfold/aggregate/Moments" "squares" "D" (.double (0 : UInt64))) (hB0 : B0 = (if mm < (1 : Int32) then 0 else x1.toInt)) (hB1 : B1 = (if mm < (2 : Int32) then 0 else x2.toInt)) (hB2 : B2 = (if kk < (1 : Int32) then 0 else y1.toInt)) (hB3 : B3 = (if kk < (2 : Int32) then 0 else y2.toInt)) (hB4 : B4 = (if qq < (1 : Int32) then 0 else z1.toInt)) (hB5 : B5 = (if qq < (2 : Int32) then 0 else z2.toInt)) (hSX : SX = B0 + B1 + B2 + B3 + B4 + B5) (hSQ : SQ = B0 * B0 + B1 * B1 + B2 * B2 + B3 * B3 + B4 * B4 + B5 * B5) (hm : mm = 0) (hk : kk = 0) (hn : nm = 0) (hqq : ((nm = 1 ∧ qq = 1) ∨ (nm = 2 ∧ qq = 2) ∨ (¬ nm = 1 ∧ ¬ nm = 2 ∧ qq = 0))) (r0 : Steps p.tables e below S0 (T0.setTop (mkF m 203 #[.val (.int p1), .val (.long p2), .second, .val (.long p3), .second, .val (.long p4), .second, .val (.int sl), .val (.ref b1), .val (.ref b2), .val (.int mm), .val (.int kk), .val (.int nm), .val (.int qq), .val (.int x1), .val (.int x2), .val (.int y1), .val (.int y2), .val (.int z1), .val (.int z2), .val (.ref oa), .val (.ref ob), .val (.ref oc), .unset, .unset, .unset, .unset, .unset, .unset, .unset, .unset, .unset, .unset, .unset, .unset] [(.int (1 : Int32)), (.int mm)]))) :
    ∃ (T' : State) (h' : Heap) (L' : List Loc) (cn : Int64) (sq : UInt64), Stand p l e room_1 s m #[(.int p1), (.long p2), (.long p3), (.long p4)] below meth c T' L' 5 23 ∧ T'.heap = h' ∧ Fr n0 L' ∧ Old Z n0 h' ∧ n0 ≤ h'.size ∧ Exa Z h' oa "org/rowfold/aggregate/Moments" ∧ Fld Z h' oa "org/rowfold/aggregate/Moments" "count" "J" (.long cn) ∧ Fld Z h' oa "org/rowfold/aggregate/Moments" "squares" "D" (.double sq) ∧ ((cn.toInt = 0 ∧ nm + qq = 0) ∨ (cn.toInt = 2 ∧ nm + qq = 2 ∧ Dy (2 * SQ - SX * SX) 1 sq) ∨ (cn.toInt = 4 ∧ nm + qq = 4 ∧ Dy (4 * SQ - SX * SX) 2 sq)) ∧ Steps p.tables e below S0 (T'.setTop (mkF m 320 #[.val (.int p1), .val (.long p2), .second, .val (.long p3), .second, .val (.long p4), .second, .val (.int sl), .val (.ref b1), .val (.ref b2), .val (.int mm), .val (.int kk), .val (.int nm), .val (.int qq), .val (.int x1), .val (.int x2), .val (.int y1), .val (.int y2), .val (.int z1), .val (.int z2), .val (.ref oa), .val (.ref ob), .val (.ref oc), .val (.ref oa), .val (.ref oa), .unset, .unset, .unset, .unset, .unset, .unset, .unset, .unset, .unset, .unset] [])) := by
  have hq : qq = 0 := by
    rcases hqq with ⟨z1_, z2_⟩ | ⟨z1_, z2_⟩ | ⟨z1_, z2_, z3_⟩
    · first | exact z2_ | exact absurd (hn.symm.trans z1_) (by decide)
    · first | exact z2_ | exact absurd (hn.symm.trans z1_) (by decide)
    · first | exact z3_ | exact absurd hn z1_ | exact absurd hn z2_
  have B0_ : B0 = 0 := by rw [hB0, hm]; exact if_pos (by decide)
  have B1_ : B1 = 0 := by rw [hB1, hm]; exact if_pos (by decide)
  have B2_ : B2 = 0 := by rw [hB2, hk]; exact if_pos (by decide)
  have B3_ : B3 = 0 := by rw [hB3, hk]; exact if_pos (by decide)
  have B4_ : B4 = 0 := by rw [hB4, hq]; exact if_pos (by decide)
  have B5_ : B5 = 0 := by rw [hB5, hq]; exact if_pos (by decide)
  have hm1_ : mm < (1 : Int32) := by rw [hm]; decide
  have hm2_ : mm < (2 : Int32) := by rw [hm]; decide
  have hk1_ : kk < (1 : Int32) := by rw [hk]; decide
  have hk2_ : kk < (2 : Int32) := by rw [hk]; decide
  have hq1_ : qq < (1 : Int32) := by rw [hq]; decide
  have hq2_ : qq < (2 : Int32) := by rw [hq]; decide
  have r226 : Steps p.tables e below S0 (T0.setTop (mkF m 288 #[.val (.int p1), .val (.long p2), .second, .val (.long p3), .second, .val (.long p4), .second, .val (.int sl), .val (.ref b1), .val (.ref b2), .val (.int mm), .val (.int kk), .val (.int nm), .val (.int qq), .val (.int x1), .val (.int x2), .val (.int y1), .val (.int y2), .val (.int z1), .val (.int z2), .val (.ref oa), .val (.ref ob), .val (.ref oc), .unset, .unset, .unset, .unset, .unset, .unset, .unset, .unset, .unset, .unset, .unset, .unset] [(.ref ob), (.ref oa)])) := by
    refine r0.trans ?_
    show Steps p.tables e below (T0.setTop (mkF m 203 #[.val (.int p1), .val (.long p2), .second, .val (.long p3), .second, .val (.long p4), .second, .val (.int sl), .val (.ref b1), .val (.ref b2), .val (.int mm), .val (.int kk), .val (.int nm), .val (.int qq), .val (.int x1), .val (.int x2), .val (.int y1), .val (.int y2), .val (.int z1), .val (.int z2), .val (.ref oa), .val (.ref ob), .val (.ref oc), .unset, .unset, .unset, .unset, .unset, .unset, .unset, .unset, .unset, .unset, .unset, .unset] [(.int (1 : Int32)), (.int mm)])) _
    refine XS.icmpYes X0.here hx rfl (pc0 := 203) (pc' := 214) rfl (hb hby at_203) rfl (tlt hm1_).1 (by decide) (by decide) ?_
    refine XS.iload X0.here hx rfl (hb hby at_214) rfl ?_
    refine XS.iconst X0.here hx rfl (hb hby at_216) ?_
    show Steps p.tables e below (T0.setTop (mkF m 217 #[.val (.int p1), .val (.long p2), .second, .val (.long p3), .second, .val (.long p4), .second, .val (.int sl), .val (.ref b1), .val (.ref b2), .val (.int mm), .val (.int kk), .val (.int nm), .val (.int qq), .val (.int x1), .val (.int x2), .val (.int y1), .val (.int y2), .val (.int z1), .val (.int z2), .val (.ref oa), .val (.ref ob), .val (.ref oc), .unset, .unset, .unset, .unset, .unset, .unset, .unset, .unset, .unset, .unset, .unset, .unset] [(.int (2 : Int32)), (.int mm)])) _
    refine XS.icmpYes X0.here hx rfl (pc0 := 217) (pc' := 228) rfl (hb hby at_217) rfl (tlt hm2_).1 (by decide) (by decide) ?_
    refine XS.iload X0.here hx rfl (hb hby at_228) rfl ?_
    refine XS.iconst X0.here hx rfl (hb hby at_230) ?_
    show Steps p.tables e below (T0.setTop (mkF m 231 #[.val (.int p1), .val (.long p2), .second, .val (.long p3), .second, .val (.long p4), .second, .val (.int sl), .val (.ref b1), .val (.ref b2), .val (.int mm), .val (.int kk), .val (.int nm), .val (.int qq), .val (.int x1), .val (.int x2), .val (.int y1), .val (.int y2), .val (.int z1), .val (.int z2), .val (.ref oa), .val (.ref ob), .val (.ref oc), .unset, .unset, .unset, .unset, .unset, .unset, .unset, .unset, .unset, .unset, .unset, .unset] [(.int (1 : Int32)), (.int kk)])) _
    refine XS.icmpYes X0.here hx rfl (pc0 := 231) (pc' := 242) rfl (hb hby at_231) rfl (tlt hk1_).1 (by decide) (by decide) ?_
    refine XS.iload X0.here hx rfl (hb hby at_242) rfl ?_
    refine XS.iconst X0.here hx rfl (hb hby at_244) ?_
    show Steps p.tables e below (T0.setTop (mkF m 245 #[.val (.int p1), .val (.long p2), .second, .val (.long p3), .second, .val (.long p4), .second, .val (.int sl), .val (.ref b1), .val (.ref b2), .val (.int mm), .val (.int kk), .val (.int nm), .val (.int qq), .val (.int x1), .val (.int x2), .val (.int y1), .val (.int y2), .val (.int z1), .val (.int z2), .val (.ref oa), .val (.ref ob), .val (.ref oc), .unset, .unset, .unset, .unset, .unset, .unset, .unset, .unset, .unset, .unset, .unset, .unset] [(.int (2 : Int32)), (.int kk)])) _
    refine XS.icmpYes X0.here hx rfl (pc0 := 245) (pc' := 256) rfl (hb hby at_245) rfl (tlt hk2_).1 (by decide) (by decide) ?_
    refine XS.iload X0.here hx rfl (hb hby at_256) rfl ?_
    refine XS.iconst X0.here hx rfl (hb hby at_258) ?_
    show Steps p.tables e below (T0.setTop (mkF m 259 #[.val (.int p1), .val (.long p2), .second, .val (.long p3), .second, .val (.long p4), .second, .val (.int sl), .val (.ref b1), .val (.ref b2), .val (.int mm), .val (.int kk), .val (.int nm), .val (.int qq), .val (.int x1), .val (.int x2), .val (.int y1), .val (.int y2), .val (.int z1), .val (.int z2), .val (.ref oa), .val (.ref ob), .val (.ref oc), .unset, .unset, .unset, .unset, .unset, .unset, .unset, .unset, .unset, .unset, .unset, .unset] [(.int (1 : Int32)), (.int qq)])) _
    refine XS.icmpYes X0.here hx rfl (pc0 := 259) (pc' := 270) rfl (hb hby at_259) rfl (tlt hq1_).1 (by decide) (by decide) ?_
    refine XS.iload X0.here hx rfl (hb hby at_270) rfl ?_
    refine XS.iconst X0.here hx rfl (hb hby at_272) ?_
    show Steps p.tables e below (T0.setTop (mkF m 273 #[.val (.int p1), .val (.long p2), .second, .val (.long p3), .second, .val (.long p4), .second, .val (.int sl), .val (.ref b1), .val (.ref b2), .val (.int mm), .val (.int kk), .val (.int nm), .val (.int qq), .val (.int x1), .val (.int x2), .val (.int y1), .val (.int y2), .val (.int z1), .val (.int z2), .val (.ref oa), .val (.ref ob), .val (.ref oc), .unset, .unset, .unset, .unset, .unset, .unset, .unset, .unset, .unset, .unset, .unset, .unset] [(.int (2 : Int32)), (.int qq)])) _
    refine XS.icmpYes X0.here hx rfl (pc0 := 273) (pc' := 284) rfl (hb hby at_273) rfl (tlt hq2_).1 (by decide) (by decide) ?_
    refine XS.aload X0.here hx rfl (hb hby at_284) rfl rfl ?_
    refine XS.aload X0.here hx rfl (hb hby at_286) rfl rfl ?_
    exact Steps.refl _
  obtain ⟨cq227, kq227, q227a, q227b, q227c⟩ := isOf hZ e0 E_oa
  obtain ⟨_, _, ⟨T227, L227, k227, n227⟩, -, X227, ⟨Lc227, hQ227, l227, y227, z227⟩, st227⟩ := X0.virtualBack hx (y := (⟨"org/rowfold/aggregate/Moments", "combine", "(Lorg/rowfold/aggregate/Moments;)Lorg/rowfold/aggregate/Moments;"⟩ : MethodName)) (z := (⟨"org/rowfold/aggregate/Moments", "combine", "(Lorg/rowfold/aggregate/Moments;)Lorg/rowfold/aggregate/Moments;"⟩ : MethodName)) hown (mvT hZ (hw _ (List.mem_of_getElem? (i := 15) rfl))) (mvT hZ (hw _ (List.mem_of_getElem? (i := 16) rfl))) (notFace_of_selects (args := #[]) (mvT hZ (hw _ (List.mem_of_getElem? (i := 18) rfl)))) (mvT hZ (hw _ (List.mem_of_getElem? (i := 18) rfl))) (mvT hZ (hw _ (List.mem_of_getElem? (i := 17) rfl))) (by decide) (backOf (W := 0) (rmC0 l Z a0 hw [] oa ob (0 : Int64) h0 n0 Z0 F_ob_count (by decide)) hZ (hw _ (List.mem_of_getElem? (i := 19) rfl)) (hw _ (List.mem_of_getElem? (i := 8) rfl)) (by decide) (by decide)) q227a q227c (g := (mkF m 288 #[.val (.int p1), .val (.long p2), .second, .val (.long p3), .second, .val (.long p4), .second, .val (.int sl), .val (.ref b1), .val (.ref b2), .val (.int mm), .val (.int kk), .val (.int nm), .val (.int qq), .val (.int x1), .val (.int x2), .val (.int y1), .val (.int y2), .val (.int z1), .val (.int z2), .val (.ref oa), .val (.ref ob), .val (.ref oc), .unset, .unset, .unset, .unset, .unset, .unset, .unset, .unset, .unset, .unset, .unset, .unset] [(.ref ob), (.ref oa)])) rfl (by rw [hml]; rfl) (Steps.refl _) (argsL := [(.ref ob)]) (rest := []) (lenOf pd_5 rfl) rfl (by show 2 * 0 + _ ≤ _; exact Nat.le_of_eq rfl) (hb hby at_288) (fun _ _ => ⟨rfl, e0, (by decide : 5 + 0 ≤ _), (by decide : 23 + 0 ≤ _)⟩)
  dsimp only [Pt.U, Pt.locs, Pt.cells, Pt.slots] at X227 l227 y227 z227 st227 hQ227
  subst l227 y227 z227
  obtain ⟨rfl, Nq227, e227⟩ := hQ227
  have N227 := Fr.app N0 Nq227
  have r228 : Steps p.tables e below S0 (T227.setTop (mkF m 291 #[.val (.int p1), .val (.long p2), .second, .val (.long p3), .second, .val (.long p4), .second, .val (.int sl), .val (.ref b1), .val (.ref b2), .val (.int mm), .val (.int kk), .val (.int nm), .val (.int qq), .val (.int x1), .val (.int x2), .val (.int y1), .val (.int y2), .val (.int z1), .val (.int z2), .val (.ref oa), .val (.ref ob), .val (.ref oc), .unset, .unset, .unset, .unset, .unset, .unset, .unset, .unset, .unset, .unset, .unset, .unset] [(.ref oa)])) := r226.trans st227
  have r229 : Steps p.tables e below S0 (T227.setTop (mkF m 306 #[.val (.int p1), .val (.long p2), .second, .val (.long p3), .second, .val (.long p4), .second, .val (.int sl), .val (.ref b1), .val (.ref b2), .val (.int mm), .val (.int kk), .val (.int nm), .val (.int qq), .val (.int x1), .val (.int x2), .val (.int y1), .val (.int y2), .val (.int z1), .val (.int z2), .val (.ref oa), .val (.ref ob), .val (.ref oc), .val (.ref oa), .unset, .unset, .unset, .unset, .unset, .unset, .unset, .unset, .unset, .unset, .unset] [(.ref oc), (.ref oa)])) := by
    refine r228.trans ?_
    show Steps p.tables e below (T227.setTop (mkF m 291 #[.val (.int p1), .val (.long p2), .second, .val (.long p3), .second, .val (.long p4), .second, .val (.int sl), .val (.ref b1), .val (.ref b2), .val (.int mm), .val (.int kk), .val (.int nm), .val (.int qq), .val (.int x1), .val (.int x2), .val (.int y1), .val (.int y2), .val (.int z1), .val (.int z2), .val (.ref oa), .val (.ref ob), .val (.ref oc), .unset, .unset, .unset, .unset, .unset, .unset, .unset, .unset, .unset, .unset, .unset, .unset] [(.ref oa)])) _
    refine XS.astore X227.here hx rfl (hb hby at_291) rfl rfl (l' := #[.val (.int p1), .val (.long p2), .second, .val (.long p3), .second, .val (.long p4), .second, .val (.int sl), .val (.ref b1), .val (.ref b2), .val (.int mm), .val (.int kk), .val (.int nm), .val (.int qq), .val (.int x1), .val (.int x2), .val (.int y1), .val (.int y2), .val (.int z1), .val (.int z2), .val (.ref oa), .val (.ref ob), .val (.ref oc), .val (.ref oa), .unset, .unset, .unset, .unset, .unset, .unset, .unset, .unset, .unset, .unset, .unset]) rfl ?_
    refine XS.aload X227.here hx rfl (hb hby at_293) rfl rfl ?_
    refine XS.aload X227.here hx rfl (hb hby at_295) rfl rfl ?_
    show Steps p.tables e below (T227.setTop (mkF m 297 #[.val (.int p1), .val (.long p2), .second, .val (.long p3), .second, .val (.long p4), .second, .val (.int sl), .val (.ref b1), .val (.ref b2), .val (.int mm), .val (.int kk), .val (.int nm), .val (.int qq), .val (.int x1), .val (.int x2), .val (.int y1), .val (.int y2), .val (.int z1), .val (.int z2), .val (.ref oa), .val (.ref ob), .val (.ref oc), .val (.ref oa), .unset, .unset, .unset, .unset, .unset, .unset, .unset, .unset, .unset, .unset, .unset] [(.ref oa), (.ref oa)])) _
    refine Jvm.RoadKit.acmp (g := (mkF m 297 #[.val (.int p1), .val (.long p2), .second, .val (.long p3), .second, .val (.long p4), .second, .val (.int sl), .val (.ref b1), .val (.ref b2), .val (.int mm), .val (.int kk), .val (.int nm), .val (.int qq), .val (.int x1), .val (.int x2), .val (.int y1), .val (.int y2), .val (.int z1), .val (.int z2), .val (.ref oa), .val (.ref ob), .val (.ref oc), .val (.ref oa), .unset, .unset, .unset, .unset, .unset, .unset, .unset, .unset, .unset, .unset, .unset] [(.ref oa), (.ref oa)])) X227 hx rfl rfl rfl (pc0 := 297) (pc' := 302) (same := true) rfl (hb hby at_297) rfl (decide_eq_true rfl) (by decide) (by decide) ?_
    refine XS.aload X227.here hx rfl (hb hby at_302) rfl rfl ?_
    refine XS.aload X227.here hx rfl (hb hby at_304) rfl rfl ?_
    exact Steps.refl _
  obtain ⟨cq230, kq230, q230a, q230b, q230c⟩ := isOf hZ e227 E_oa
  obtain ⟨_, _, ⟨T230, L230, k230, n230⟩, -, X230, ⟨Lc230, hQ230, l230, y230, z230⟩, st230⟩ := X227.virtualBack hx (y := (⟨"org/rowfold/aggregate/Moments", "combine", "(Lorg/rowfold/aggregate/Moments;)Lorg/rowfold/aggregate/Moments;"⟩ : MethodName)) (z := (⟨"org/rowfold/aggregate/Moments", "combine", "(Lorg/rowfold/aggregate/Moments;)Lorg/rowfold/aggregate/Moments;"⟩ : MethodName)) hown (mvT hZ (hw _ (List.mem_of_getElem? (i := 15) rfl))) (mvT hZ (hw _ (List.mem_of_getElem? (i := 16) rfl))) (notFace_of_selects (args := #[]) (mvT hZ (hw _ (List.mem_of_getElem? (i := 18) rfl)))) (mvT hZ (hw _ (List.mem_of_getElem? (i := 18) rfl))) (mvT hZ (hw _ (List.mem_of_getElem? (i := 17) rfl))) (by decide) (backOf (W := 0) (rmC0 l Z a0 hw [] oa oc (0 : Int64) h0 n0 Z0 F_oc_count (by decide)) hZ (hw _ (List.mem_of_getElem? (i := 19) rfl)) (hw _ (List.mem_of_getElem? (i := 8) rfl)) (by decide) (by decide)) q230a q230c (g := (mkF m 306 #[.val (.int p1), .val (.long p2), .second, .val (.long p3), .second, .val (.long p4), .second, .val (.int sl), .val (.ref b1), .val (.ref b2), .val (.int mm), .val (.int kk), .val (.int nm), .val (.int qq), .val (.int x1), .val (.int x2), .val (.int y1), .val (.int y2), .val (.int z1), .val (.int z2), .val (.ref oa), .val (.ref ob), .val (.ref oc), .val (.ref oa), .unset, .unset, .unset, .unset, .unset, .unset, .unset, .unset, .unset, .unset, .unset] [(.ref oc), (.ref oa)])) rfl (by rw [hml]; rfl) (Steps.refl _) (argsL := [(.ref oc)]) (rest := []) (lenOf pd_5 rfl) rfl (by show 2 * 0 + _ ≤ _; exact Nat.le_of_eq rfl) (hb hby at_306) (fun _ _ => ⟨rfl, e227, (by decide : (5 + 0) + 0 ≤ _), (by decide : (23 + 0) + 0 ≤ _)⟩)
  dsimp only [Pt.U, Pt.locs, Pt.cells, Pt.slots] at X230 l230 y230 z230 st230 hQ230
  subst l230 y230 z230
  obtain ⟨rfl, Nq230, e230⟩ := hQ230
  have N230 := Fr.app N227 Nq230
  have r231 : Steps p.tables e below S0 (T230.setTop (mkF m 309 #[.val (.int p1), .val (.long p2), .second, .val (.long p3), .second, .val (.long p4), .second, .val (.int sl), .val (.ref b1), .val (.ref b2), .val (.int mm), .val (.int kk), .val (.int nm), .val (.int qq), .val (.int x1), .val (.int x2), .val (.int y1), .val (.int y2), .val (.int z1), .val (.int z2), .val (.ref oa), .val (.ref ob), .val (.ref oc), .val (.ref oa), .unset, .unset, .unset, .unset, .unset, .unset, .unset, .unset, .unset, .unset, .unset] [(.ref oa)])) := r229.trans st230
  have r232 : Steps p.tables e below S0 (T230.setTop (mkF m 320 #[.val (.int p1), .val (.long p2), .second, .val (.long p3), .second, .val (.long p4), .second, .val (.int sl), .val (.ref b1), .val (.ref b2), .val (.int mm), .val (.int kk), .val (.int nm), .val (.int qq), .val (.int x1), .val (.int x2), .val (.int y1), .val (.int y2), .val (.int z1), .val (.int z2), .val (.ref oa), .val (.ref ob), .val (.ref oc), .val (.ref oa), .val (.ref oa), .unset, .unset, .unset, .unset, .unset, .unset, .unset, .unset, .unset, .unset] [])) := by
    refine r231.trans ?_
    show Steps p.tables e below (T230.setTop (mkF m 309 #[.val (.int p1), .val (.long p2), .second, .val (.long p3), .second, .val (.long p4), .second, .val (.int sl), .val (.ref b1), .val (.ref b2), .val (.int mm), .val (.int kk), .val (.int nm), .val (.int qq), .val (.int x1), .val (.int x2), .val (.int y1), .val (.int y2), .val (.int z1), .val (.int z2), .val (.ref oa), .val (.ref ob), .val (.ref oc), .val (.ref oa), .unset, .unset, .unset, .unset, .unset, .unset, .unset, .unset, .unset, .unset, .unset] [(.ref oa)])) _
    refine XS.astore X230.here hx rfl (hb hby at_309) rfl rfl (l' := #[.val (.int p1), .val (.long p2), .second, .val (.long p3), .second, .val (.long p4), .second, .val (.int sl), .val (.ref b1), .val (.ref b2), .val (.int mm), .val (.int kk), .val (.int nm), .val (.int qq), .val (.int x1), .val (.int x2), .val (.int y1), .val (.int y2), .val (.int z1), .val (.int z2), .val (.ref oa), .val (.ref ob), .val (.ref oc), .val (.ref oa), .val (.ref oa), .unset, .unset, .unset, .unset, .unset, .unset, .unset, .unset, .unset, .unset]) rfl ?_
    refine XS.aload X230.here hx rfl (hb hby at_311) rfl rfl ?_
    refine XS.aload X230.here hx rfl (hb hby at_313) rfl rfl ?_
    show Steps p.tables e below (T230.setTop (mkF m 315 #[.val (.int p1), .val (.long p2), .second, .val (.long p3), .second, .val (.long p4), .second, .val (.int sl), .val (.ref b1), .val (.ref b2), .val (.int mm), .val (.int kk), .val (.int nm), .val (.int qq), .val (.int x1), .val (.int x2), .val (.int y1), .val (.int y2), .val (.int z1), .val (.int z2), .val (.ref oa), .val (.ref ob), .val (.ref oc), .val (.ref oa), .val (.ref oa), .unset, .unset, .unset, .unset, .unset, .unset, .unset, .unset, .unset, .unset] [(.ref oa), (.ref oa)])) _
    refine Jvm.RoadKit.acmp (g := (mkF m 315 #[.val (.int p1), .val (.long p2), .second, .val (.long p3), .second, .val (.long p4), .second, .val (.int sl), .val (.ref b1), .val (.ref b2), .val (.int mm), .val (.int kk), .val (.int nm), .val (.int qq), .val (.int x1), .val (.int x2), .val (.int y1), .val (.int y2), .val (.int z1), .val (.int z2), .val (.ref oa), .val (.ref ob), .val (.ref oc), .val (.ref oa), .val (.ref oa), .unset, .unset, .unset, .unset, .unset, .unset, .unset, .unset, .unset, .unset] [(.ref oa), (.ref oa)])) X230 hx rfl rfl rfl (pc0 := 315) (pc' := 320) (same := true) rfl (hb hby at_315) rfl (decide_eq_true rfl) (by decide) (by decide) ?_
    exact Steps.refl _
  have htot : nm + qq = 0 := by rw [hn, hq]; decide
  exact ⟨T230, h0, _, (0 : Int64), (0 : UInt64), X230, e230, N230, O0, Z0, E_oa, F_oa_count, F_oa_squares, Or.inl ⟨by decide, htot⟩, r232⟩
set_option maxRecDepth 65536 in
set_option maxHeartbeats 40000000 in
theorem sgB1 {p : Program} {e : Env} {s : State} {m : MethodId} {below : List Frame} {meth : Method} {c : Code} (l : Launch) (Z : State) (a0 : Array Value) (hw : ∀ d ∈ tables_1, d.before a0 Z = true) (p1 : Int32) (p2 p3 p4 : Int64) (hx : p.tables.exec = Jvm.exec) (hby : c.code = code) (hml : c.maxLocals = 35) (hown : s.vm.findClass "org/rowfold/aggregate/MomentsCombinePinLaw" = some m.cls) (hZ : Z.Warmed39 s.vm) (b1 : Addr) (b2 : Addr) (sl : Int32) (mm : Int32) (kk : Int32) (nm : Int32) (qq : Int32) (x1 : Int32) (x2 : Int32) (y1 : Int32) (y2 : Int32) (z1 : Int32) (z2 : Int32) (oa : Addr) (ob : Addr) (oc : Addr) (B0 : Int) (B1 : Int) (B2 : Int) (B3 : Int) (B4 : Int) (B5 : Int) (SX : Int) (SQ : Int) (S0 T0 : State) (h0 : Heap) (L0 : List Loc) (n0 : Nat) (X0 : Stand p l e room_1 s m #[(.int p1), (.long p2), (.long p3), (.long p4)] below meth c T0 L0 5 23) (e0 : T0.heap = h0) (N0 : Fr n0 L0) (O0 : Old Z n0 h0) (Z0 : n0 ≤ h0.size) (bx1 : x1.toInt.natAbs ≤ 1048576) (bx2 : x2.toInt.natAbs ≤ 1048576) (by1 : y1.toInt.natAbs ≤ 1048576) (by2 : y2.toInt.natAbs ≤ 1048576) (bz1 : z1.toInt.natAbs ≤ 1048576) (bz2 : z2.toInt.natAbs ≤ 1048576) (g_oa : n0 ≤ oa) (g_ob : n0 ≤ ob) (g_oc : n0 ≤ oc) (ne_ab : oa ≠ ob) (ne_ac : oa ≠ oc) (ne_bc : ob ≠ oc) (E_oa : Exa Z h0 oa "org/rowfold/aggregate/Moments") (E_ob : Exa Z h0 ob "org/rowfold/aggregate/Moments") (E_oc : Exa Z h0 oc "org/rowfold/aggregate/Moments") (F_oa_count : Fld Z h0 oa "org/rowfold/aggregate/Moments" "count" "J" (.long (0 : Int64))) (F_oa_mean : Fld Z h0 oa "org/rowfold/aggregate/Moments" "mean" "D" (.double (0 : UInt64))) (F_oa_squares : Fld Z h0 oa "org/rowfold/aggregate/Moments" "squares" "D" (.double (0 : UInt64))) (F_ob_count : Fld Z h0 ob "org/rowfold/aggregate/Moments" "count" "J" (.long (0 : Int64))) (F_ob_mean : Fld Z h0 ob "org/rowfold/aggregate/Moments" "mean" "D" (.double (0 : UInt64))) (F_ob_squares : Fld Z h0 ob "org/rowfold/aggregate/Moments" "squares" "D" (.double (0 : UInt64))) (F_oc_count : Fld Z h0 oc "org/rowfold/aggregate/Moments" "count" "J" (.long (0 : Int64))) (F_oc_mean : Fld Z h0 oc "org/rowfold/aggregate/Moments" "mean" "D" (.double (0 : UInt64))) (F_oc_squares : Fld Z h0 oc "org/rowfold/aggregate/Moments" "squares" "D" (.double (0 : UInt64))) (hB0 : B0 = (if mm < (1 : Int32) then 0 else x1.toInt)) (hB1 : B1 = (if mm < (2 : Int32) then 0 else x2.toInt)) (hB2 : B2 = (if kk < (1 : Int32) then 0 else y1.toInt)) (hB3 : B3 = (if kk < (2 : Int32) then 0 else y2.toInt)) (hB4 : B4 = (if qq < (1 : Int32) then 0 else z1.toInt)) (hB5 : B5 = (if qq < (2 : Int32) then 0 else z2.toInt)) (hSX : SX = B0 + B1 + B2 + B3 + B4 + B5) (hSQ : SQ = B0 * B0 + B1 * B1 + B2 * B2 + B3 * B3 + B4 * B4 + B5 * B5) (hm : mm = 0) (hk : kk = 1) (hn : nm = 1) (hqq : ((nm = 1 ∧ qq = 1) ∨ (nm = 2 ∧ qq = 2) ∨ (¬ nm = 1 ∧ ¬ nm = 2 ∧ qq = 0))) (r0 : Steps p.tables e below S0 (T0.setTop (mkF m 203 #[.val (.int p1), .val (.long p2), .second, .val (.long p3), .second, .val (.long p4), .second, .val (.int sl), .val (.ref b1), .val (.ref b2), .val (.int mm), .val (.int kk), .val (.int nm), .val (.int qq), .val (.int x1), .val (.int x2), .val (.int y1), .val (.int y2), .val (.int z1), .val (.int z2), .val (.ref oa), .val (.ref ob), .val (.ref oc), .unset, .unset, .unset, .unset, .unset, .unset, .unset, .unset, .unset, .unset, .unset, .unset] [(.int (1 : Int32)), (.int mm)]))) :
    ∃ (T' : State) (h' : Heap) (L' : List Loc) (cn : Int64) (sq : UInt64), Stand p l e room_1 s m #[(.int p1), (.long p2), (.long p3), (.long p4)] below meth c T' L' 5 23 ∧ T'.heap = h' ∧ Fr n0 L' ∧ Old Z n0 h' ∧ n0 ≤ h'.size ∧ Exa Z h' oa "org/rowfold/aggregate/Moments" ∧ Fld Z h' oa "org/rowfold/aggregate/Moments" "count" "J" (.long cn) ∧ Fld Z h' oa "org/rowfold/aggregate/Moments" "squares" "D" (.double sq) ∧ ((cn.toInt = 0 ∧ nm + qq = 0) ∨ (cn.toInt = 2 ∧ nm + qq = 2 ∧ Dy (2 * SQ - SX * SX) 1 sq) ∨ (cn.toInt = 4 ∧ nm + qq = 4 ∧ Dy (4 * SQ - SX * SX) 2 sq)) ∧ Steps p.tables e below S0 (T'.setTop (mkF m 320 #[.val (.int p1), .val (.long p2), .second, .val (.long p3), .second, .val (.long p4), .second, .val (.int sl), .val (.ref b1), .val (.ref b2), .val (.int mm), .val (.int kk), .val (.int nm), .val (.int qq), .val (.int x1), .val (.int x2), .val (.int y1), .val (.int y2), .val (.int z1), .val (.int z2), .val (.ref oa), .val (.ref ob), .val (.ref oc), .val (.ref oa), .val (.ref oa), .unset, .unset, .unset, .unset, .unset, .unset, .unset, .unset, .unset, .unset] [])) := by
  have hq : qq = 1 := by
    rcases hqq with ⟨z1_, z2_⟩ | ⟨z1_, z2_⟩ | ⟨z1_, z2_, z3_⟩
    · first | exact z2_ | exact absurd (hn.symm.trans z1_) (by decide)
    · first | exact z2_ | exact absurd (hn.symm.trans z1_) (by decide)
    · first | exact z3_ | exact absurd hn z1_ | exact absurd hn z2_
  have B0_ : B0 = 0 := by rw [hB0, hm]; exact if_pos (by decide)
  have B1_ : B1 = 0 := by rw [hB1, hm]; exact if_pos (by decide)
  have B2_ : B2 = y1.toInt := by rw [hB2, hk]; exact if_neg (by decide)
  have B3_ : B3 = 0 := by rw [hB3, hk]; exact if_pos (by decide)
  have B4_ : B4 = z1.toInt := by rw [hB4, hq]; exact if_neg (by decide)
  have B5_ : B5 = 0 := by rw [hB5, hq]; exact if_pos (by decide)
  have hm1_ : mm < (1 : Int32) := by rw [hm]; decide
  have hm2_ : mm < (2 : Int32) := by rw [hm]; decide
  have hk1_ : ¬ kk < (1 : Int32) := by rw [hk]; decide
  have hcb1 : ((0 : Int64) + (1 : Int64)).toInt = 1 := by decide
  obtain ⟨mb1, sb1, hAb1, ymb1, ysb1⟩ := st1 (Dy.i2d y1) (nb1 by1) hcb1
  have r233 : Steps p.tables e below S0 (T0.setTop (mkF m 239 #[.val (.int p1), .val (.long p2), .second, .val (.long p3), .second, .val (.long p4), .second, .val (.int sl), .val (.ref b1), .val (.ref b2), .val (.int mm), .val (.int kk), .val (.int nm), .val (.int qq), .val (.int x1), .val (.int x2), .val (.int y1), .val (.int y2), .val (.int z1), .val (.int z2), .val (.ref oa), .val (.ref ob), .val (.ref oc), .unset, .unset, .unset, .unset, .unset, .unset, .unset, .unset, .unset, .unset, .unset, .unset] [(.double (FP.i2d y1)), (.ref ob)])) := by
    refine r0.trans ?_
    show Steps p.tables e below (T0.setTop (mkF m 203 #[.val (.int p1), .val (.long p2), .second, .val (.long p3), .second, .val (.long p4), .second, .val (.int sl), .val (.ref b1), .val (.ref b2), .val (.int mm), .val (.int kk), .val (.int nm), .val (.int qq), .val (.int x1), .val (.int x2), .val (.int y1), .val (.int y2), .val (.int z1), .val (.int z2), .val (.ref oa), .val (.ref ob), .val (.ref oc), .unset, .unset, .unset, .unset, .unset, .unset, .unset, .unset, .unset, .unset, .unset, .unset] [(.int (1 : Int32)), (.int mm)])) _
    refine XS.icmpYes X0.here hx rfl (pc0 := 203) (pc' := 214) rfl (hb hby at_203) rfl (tlt hm1_).1 (by decide) (by decide) ?_
    refine XS.iload X0.here hx rfl (hb hby at_214) rfl ?_
    refine XS.iconst X0.here hx rfl (hb hby at_216) ?_
    show Steps p.tables e below (T0.setTop (mkF m 217 #[.val (.int p1), .val (.long p2), .second, .val (.long p3), .second, .val (.long p4), .second, .val (.int sl), .val (.ref b1), .val (.ref b2), .val (.int mm), .val (.int kk), .val (.int nm), .val (.int qq), .val (.int x1), .val (.int x2), .val (.int y1), .val (.int y2), .val (.int z1), .val (.int z2), .val (.ref oa), .val (.ref ob), .val (.ref oc), .unset, .unset, .unset, .unset, .unset, .unset, .unset, .unset, .unset, .unset, .unset, .unset] [(.int (2 : Int32)), (.int mm)])) _
    refine XS.icmpYes X0.here hx rfl (pc0 := 217) (pc' := 228) rfl (hb hby at_217) rfl (tlt hm2_).1 (by decide) (by decide) ?_
    refine XS.iload X0.here hx rfl (hb hby at_228) rfl ?_
    refine XS.iconst X0.here hx rfl (hb hby at_230) ?_
    show Steps p.tables e below (T0.setTop (mkF m 231 #[.val (.int p1), .val (.long p2), .second, .val (.long p3), .second, .val (.long p4), .second, .val (.int sl), .val (.ref b1), .val (.ref b2), .val (.int mm), .val (.int kk), .val (.int nm), .val (.int qq), .val (.int x1), .val (.int x2), .val (.int y1), .val (.int y2), .val (.int z1), .val (.int z2), .val (.ref oa), .val (.ref ob), .val (.ref oc), .unset, .unset, .unset, .unset, .unset, .unset, .unset, .unset, .unset, .unset, .unset, .unset] [(.int (1 : Int32)), (.int kk)])) _
    refine XS.icmpNo X0.here hx rfl (hb hby at_231) rfl (flt hk1_).1 ?_
    refine XS.aload X0.here hx rfl (hb hby at_234) rfl rfl ?_
    refine XS.iload X0.here hx rfl (hb hby at_236) rfl ?_
    show Steps p.tables e below (T0.setTop (mkF m 238 #[.val (.int p1), .val (.long p2), .second, .val (.long p3), .second, .val (.long p4), .second, .val (.int sl), .val (.ref b1), .val (.ref b2), .val (.int mm), .val (.int kk), .val (.int nm), .val (.int qq), .val (.int x1), .val (.int x2), .val (.int y1), .val (.int y2), .val (.int z1), .val (.int z2), .val (.ref oa), .val (.ref ob), .val (.ref oc), .unset, .unset, .unset, .unset, .unset, .unset, .unset, .unset, .unset, .unset, .unset, .unset] [(.int y1), (.ref ob)])) _
    refine XS.i2dS X0.here hx rfl (hb hby at_238) rfl rfl ?_
    exact Steps.refl _
  obtain ⟨cq234, kq234, q234a, q234b, q234c⟩ := isOf hZ e0 E_ob
  obtain ⟨_, _, ⟨T234, L234, k234, n234⟩, -, X234, ⟨Lc234, hQ234, l234, y234, z234⟩, st234⟩ := X0.virtualBack hx (y := (⟨"org/rowfold/aggregate/Moments", "add", "(D)V"⟩ : MethodName)) (z := (⟨"org/rowfold/aggregate/Moments", "add", "(D)V"⟩ : MethodName)) hown (mvT hZ (hw _ (List.mem_of_getElem? (i := 45) rfl))) (mvT hZ (hw _ (List.mem_of_getElem? (i := 46) rfl))) (notFace_of_selects (args := #[]) (mvT hZ (hw _ (List.mem_of_getElem? (i := 48) rfl)))) (mvT hZ (hw _ (List.mem_of_getElem? (i := 48) rfl))) (mvT hZ (hw _ (List.mem_of_getElem? (i := 47) rfl))) (by decide) (backOf (W := 0) (rmA l Z a0 hw [] ob (FP.i2d y1) (0 : Int64) (0 : UInt64) (0 : UInt64) mb1 sb1 h0 n0 Z0 F_ob_count F_ob_mean F_ob_squares E_ob g_ob hAb1) hZ (hw _ (List.mem_of_getElem? (i := 49) rfl)) (hw _ (List.mem_of_getElem? (i := 8) rfl)) (by decide) (by decide)) q234a q234c (g := (mkF m 239 #[.val (.int p1), .val (.long p2), .second, .val (.long p3), .second, .val (.long p4), .second, .val (.int sl), .val (.ref b1), .val (.ref b2), .val (.int mm), .val (.int kk), .val (.int nm), .val (.int qq), .val (.int x1), .val (.int x2), .val (.int y1), .val (.int y2), .val (.int z1), .val (.int z2), .val (.ref oa), .val (.ref ob), .val (.ref oc), .unset, .unset, .unset, .unset, .unset, .unset, .unset, .unset, .unset, .unset, .unset, .unset] [(.double (FP.i2d y1)), (.ref ob)])) rfl (by rw [hml]; rfl) (Steps.refl _) (argsL := [(.double (FP.i2d y1))]) (rest := []) (lenOf pd_0 rfl) rfl (by show 2 * 0 + _ ≤ _; exact Nat.le_of_eq rfl) (hb hby at_239) (fun _ _ => ⟨rfl, e0, (by decide : 5 + 0 ≤ _), (by decide : 23 + 0 ≤ _)⟩)
  dsimp only [Pt.U, Pt.locs, Pt.cells, Pt.slots] at X234 l234 y234 z234 st234 hQ234
  subst l234 y234 z234
  obtain ⟨rfl, Nq234, Kc234, Ec234, Fc234, Fm234, Fs234⟩ := hQ234
  have N234 := Fr.app N0 Nq234
  have r235 : Steps p.tables e below S0 (T234.setTop (mkF m 242 #[.val (.int p1), .val (.long p2), .second, .val (.long p3), .second, .val (.long p4), .second, .val (.int sl), .val (.ref b1), .val (.ref b2), .val (.int mm), .val (.int kk), .val (.int nm), .val (.int qq), .val (.int x1), .val (.int x2), .val (.int y1), .val (.int y2), .val (.int z1), .val (.int z2), .val (.ref oa), .val (.ref ob), .val (.ref oc), .unset, .unset, .unset, .unset, .unset, .unset, .unset, .unset, .unset, .unset, .unset, .unset] [])) := r233.trans st234
  have F234_oa_count := F_oa_count.keep Kc234 (ninS ne_ab nin0)
  have F234_oa_mean := F_oa_mean.keep Kc234 (ninS ne_ab nin0)
  have F234_oa_squares := F_oa_squares.keep Kc234 (ninS ne_ab nin0)
  have F234_oc_count := F_oc_count.keep Kc234 (ninS (Ne.symm ne_bc) nin0)
  have F234_oc_mean := F_oc_mean.keep Kc234 (ninS (Ne.symm ne_bc) nin0)
  have F234_oc_squares := F_oc_squares.keep Kc234 (ninS (Ne.symm ne_bc) nin0)
  have E234_oa := E_oa.keep Kc234
  have E234_ob := E_ob.keep Kc234
  have E234_oc := E_oc.keep Kc234
  have Z234 : n0 ≤ T234.heap.size := Nat.le_trans Z0 Kc234.1
  have O234 := O0.keep Kc234 (allS g_ob (all0))
  have hk2_ : kk < (2 : Int32) := by rw [hk]; decide
  have hq1_ : ¬ qq < (1 : Int32) := by rw [hq]; decide
  have hcc1 : ((0 : Int64) + (1 : Int64)).toInt = 1 := by decide
  obtain ⟨mc1, sc1, hAc1, ymc1, ysc1⟩ := st1 (Dy.i2d z1) (nb1 bz1) hcc1
  have r236 : Steps p.tables e below S0 (T234.setTop (mkF m 267 #[.val (.int p1), .val (.long p2), .second, .val (.long p3), .second, .val (.long p4), .second, .val (.int sl), .val (.ref b1), .val (.ref b2), .val (.int mm), .val (.int kk), .val (.int nm), .val (.int qq), .val (.int x1), .val (.int x2), .val (.int y1), .val (.int y2), .val (.int z1), .val (.int z2), .val (.ref oa), .val (.ref ob), .val (.ref oc), .unset, .unset, .unset, .unset, .unset, .unset, .unset, .unset, .unset, .unset, .unset, .unset] [(.double (FP.i2d z1)), (.ref oc)])) := by
    refine r235.trans ?_
    show Steps p.tables e below (T234.setTop (mkF m 242 #[.val (.int p1), .val (.long p2), .second, .val (.long p3), .second, .val (.long p4), .second, .val (.int sl), .val (.ref b1), .val (.ref b2), .val (.int mm), .val (.int kk), .val (.int nm), .val (.int qq), .val (.int x1), .val (.int x2), .val (.int y1), .val (.int y2), .val (.int z1), .val (.int z2), .val (.ref oa), .val (.ref ob), .val (.ref oc), .unset, .unset, .unset, .unset, .unset, .unset, .unset, .unset, .unset, .unset, .unset, .unset] [])) _
    refine XS.iload X234.here hx rfl (hb hby at_242) rfl ?_
    refine XS.iconst X234.here hx rfl (hb hby at_244) ?_
    refine XS.icmpYes X234.here hx rfl (pc0 := 245) (pc' := 256) rfl (hb hby at_245) rfl (tlt hk2_).1 (by decide) (by decide) ?_
    show Steps p.tables e below (T234.setTop (mkF m 256 #[.val (.int p1), .val (.long p2), .second, .val (.long p3), .second, .val (.long p4), .second, .val (.int sl), .val (.ref b1), .val (.ref b2), .val (.int mm), .val (.int kk), .val (.int nm), .val (.int qq), .val (.int x1), .val (.int x2), .val (.int y1), .val (.int y2), .val (.int z1), .val (.int z2), .val (.ref oa), .val (.ref ob), .val (.ref oc), .unset, .unset, .unset, .unset, .unset, .unset, .unset, .unset, .unset, .unset, .unset, .unset] [])) _
    refine XS.iload X234.here hx rfl (hb hby at_256) rfl ?_
    refine XS.iconst X234.here hx rfl (hb hby at_258) ?_
    refine XS.icmpNo X234.here hx rfl (hb hby at_259) rfl (flt hq1_).1 ?_
    show Steps p.tables e below (T234.setTop (mkF m 262 #[.val (.int p1), .val (.long p2), .second, .val (.long p3), .second, .val (.long p4), .second, .val (.int sl), .val (.ref b1), .val (.ref b2), .val (.int mm), .val (.int kk), .val (.int nm), .val (.int qq), .val (.int x1), .val (.int x2), .val (.int y1), .val (.int y2), .val (.int z1), .val (.int z2), .val (.ref oa), .val (.ref ob), .val (.ref oc), .unset, .unset, .unset, .unset, .unset, .unset, .unset, .unset, .unset, .unset, .unset, .unset] [])) _
    refine XS.aload X234.here hx rfl (hb hby at_262) rfl rfl ?_
    refine XS.iload X234.here hx rfl (hb hby at_264) rfl ?_
    refine XS.i2dS X234.here hx rfl (hb hby at_266) rfl rfl ?_
    exact Steps.refl _
  obtain ⟨cq237, kq237, q237a, q237b, q237c⟩ := isOf hZ rfl E234_oc
  obtain ⟨_, _, ⟨T237, L237, k237, n237⟩, -, X237, ⟨Lc237, hQ237, l237, y237, z237⟩, st237⟩ := X234.virtualBack hx (y := (⟨"org/rowfold/aggregate/Moments", "add", "(D)V"⟩ : MethodName)) (z := (⟨"org/rowfold/aggregate/Moments", "add", "(D)V"⟩ : MethodName)) hown (mvT hZ (hw _ (List.mem_of_getElem? (i := 45) rfl))) (mvT hZ (hw _ (List.mem_of_getElem? (i := 46) rfl))) (notFace_of_selects (args := #[]) (mvT hZ (hw _ (List.mem_of_getElem? (i := 48) rfl)))) (mvT hZ (hw _ (List.mem_of_getElem? (i := 48) rfl))) (mvT hZ (hw _ (List.mem_of_getElem? (i := 47) rfl))) (by decide) (backOf (W := 0) (rmA l Z a0 hw [] oc (FP.i2d z1) (0 : Int64) (0 : UInt64) (0 : UInt64) mc1 sc1 T234.heap n0 Z234 F234_oc_count F234_oc_mean F234_oc_squares E234_oc g_oc hAc1) hZ (hw _ (List.mem_of_getElem? (i := 49) rfl)) (hw _ (List.mem_of_getElem? (i := 8) rfl)) (by decide) (by decide)) q237a q237c (g := (mkF m 267 #[.val (.int p1), .val (.long p2), .second, .val (.long p3), .second, .val (.long p4), .second, .val (.int sl), .val (.ref b1), .val (.ref b2), .val (.int mm), .val (.int kk), .val (.int nm), .val (.int qq), .val (.int x1), .val (.int x2), .val (.int y1), .val (.int y2), .val (.int z1), .val (.int z2), .val (.ref oa), .val (.ref ob), .val (.ref oc), .unset, .unset, .unset, .unset, .unset, .unset, .unset, .unset, .unset, .unset, .unset, .unset] [(.double (FP.i2d z1)), (.ref oc)])) rfl (by rw [hml]; rfl) (Steps.refl _) (argsL := [(.double (FP.i2d z1))]) (rest := []) (lenOf pd_0 rfl) rfl (by show 2 * 0 + _ ≤ _; exact Nat.le_of_eq rfl) (hb hby at_267) (fun _ _ => ⟨rfl, rfl, (by decide : (5 + 0) + 0 ≤ _), (by decide : (23 + 0) + 0 ≤ _)⟩)
  dsimp only [Pt.U, Pt.locs, Pt.cells, Pt.slots] at X237 l237 y237 z237 st237 hQ237
  subst l237 y237 z237
  obtain ⟨rfl, Nq237, Kc237, Ec237, Fc237, Fm237, Fs237⟩ := hQ237
  have N237 := Fr.app N234 Nq237
  have r238 : Steps p.tables e below S0 (T237.setTop (mkF m 270 #[.val (.int p1), .val (.long p2), .second, .val (.long p3), .second, .val (.long p4), .second, .val (.int sl), .val (.ref b1), .val (.ref b2), .val (.int mm), .val (.int kk), .val (.int nm), .val (.int qq), .val (.int x1), .val (.int x2), .val (.int y1), .val (.int y2), .val (.int z1), .val (.int z2), .val (.ref oa), .val (.ref ob), .val (.ref oc), .unset, .unset, .unset, .unset, .unset, .unset, .unset, .unset, .unset, .unset, .unset, .unset] [])) := r236.trans st237
  have F237_oa_count := F234_oa_count.keep Kc237 (ninS ne_ac nin0)
  have F237_oa_mean := F234_oa_mean.keep Kc237 (ninS ne_ac nin0)
  have F237_oa_squares := F234_oa_squares.keep Kc237 (ninS ne_ac nin0)
  have F237_ob_count := Fc234.keep Kc237 (ninS ne_bc nin0)
  have F237_ob_mean := Fm234.keep Kc237 (ninS ne_bc nin0)
  have F237_ob_squares := Fs234.keep Kc237 (ninS ne_bc nin0)
  have E237_oa := E234_oa.keep Kc237
  have E237_ob := Ec234.keep Kc237
  have E237_oc := E234_oc.keep Kc237
  have Z237 : n0 ≤ T237.heap.size := Nat.le_trans Z234 Kc237.1
  have O237 := O234.keep Kc237 (allS g_oc (all0))
  have hq2_ : qq < (2 : Int32) := by rw [hq]; decide
  obtain ⟨mr0, sr0, hCr0, ymr0, ysr0⟩ := c01 (c1 := (0 : Int64)) (c2 := ((0 : Int64) + (1 : Int64))) (t := (0 : Int64) + ((0 : Int64) + (1 : Int64))) (by decide) (by decide) (by decide) ymb1 ysb1 (nb1 by1)
  have r239 : Steps p.tables e below S0 (T237.setTop (mkF m 288 #[.val (.int p1), .val (.long p2), .second, .val (.long p3), .second, .val (.long p4), .second, .val (.int sl), .val (.ref b1), .val (.ref b2), .val (.int mm), .val (.int kk), .val (.int nm), .val (.int qq), .val (.int x1), .val (.int x2), .val (.int y1), .val (.int y2), .val (.int z1), .val (.int z2), .val (.ref oa), .val (.ref ob), .val (.ref oc), .unset, .unset, .unset, .unset, .unset, .unset, .unset, .unset, .unset, .unset, .unset, .unset] [(.ref ob), (.ref oa)])) := by
    refine r238.trans ?_
    show Steps p.tables e below (T237.setTop (mkF m 270 #[.val (.int p1), .val (.long p2), .second, .val (.long p3), .second, .val (.long p4), .second, .val (.int sl), .val (.ref b1), .val (.ref b2), .val (.int mm), .val (.int kk), .val (.int nm), .val (.int qq), .val (.int x1), .val (.int x2), .val (.int y1), .val (.int y2), .val (.int z1), .val (.int z2), .val (.ref oa), .val (.ref ob), .val (.ref oc), .unset, .unset, .unset, .unset, .unset, .unset, .unset, .unset, .unset, .unset, .unset, .unset] [])) _
    refine XS.iload X237.here hx rfl (hb hby at_270) rfl ?_
    refine XS.iconst X237.here hx rfl (hb hby at_272) ?_
    refine XS.icmpYes X237.here hx rfl (pc0 := 273) (pc' := 284) rfl (hb hby at_273) rfl (tlt hq2_).1 (by decide) (by decide) ?_
    show Steps p.tables e below (T237.setTop (mkF m 284 #[.val (.int p1), .val (.long p2), .second, .val (.long p3), .second, .val (.long p4), .second, .val (.int sl), .val (.ref b1), .val (.ref b2), .val (.int mm), .val (.int kk), .val (.int nm), .val (.int qq), .val (.int x1), .val (.int x2), .val (.int y1), .val (.int y2), .val (.int z1), .val (.int z2), .val (.ref oa), .val (.ref ob), .val (.ref oc), .unset, .unset, .unset, .unset, .unset, .unset, .unset, .unset, .unset, .unset, .unset, .unset] [])) _
    refine XS.aload X237.here hx rfl (hb hby at_284) rfl rfl ?_
    refine XS.aload X237.here hx rfl (hb hby at_286) rfl rfl ?_
    exact Steps.refl _
  obtain ⟨cq240, kq240, q240a, q240b, q240c⟩ := isOf hZ rfl E237_oa
  obtain ⟨_, _, ⟨T240, L240, k240, n240⟩, -, X240, ⟨Lc240, hQ240, l240, y240, z240⟩, st240⟩ := X237.virtualBack hx (y := (⟨"org/rowfold/aggregate/Moments", "combine", "(Lorg/rowfold/aggregate/Moments;)Lorg/rowfold/aggregate/Moments;"⟩ : MethodName)) (z := (⟨"org/rowfold/aggregate/Moments", "combine", "(Lorg/rowfold/aggregate/Moments;)Lorg/rowfold/aggregate/Moments;"⟩ : MethodName)) hown (mvT hZ (hw _ (List.mem_of_getElem? (i := 15) rfl))) (mvT hZ (hw _ (List.mem_of_getElem? (i := 16) rfl))) (notFace_of_selects (args := #[]) (mvT hZ (hw _ (List.mem_of_getElem? (i := 18) rfl)))) (mvT hZ (hw _ (List.mem_of_getElem? (i := 18) rfl))) (mvT hZ (hw _ (List.mem_of_getElem? (i := 17) rfl))) (by decide) (backOf (W := 0) (rmC1 l Z a0 hw [] oa ob (0 : Int64) (0 : UInt64) (0 : UInt64) ((0 : Int64) + (1 : Int64)) mb1 sb1 mr0 sr0 T237.heap n0 Z237 F237_oa_count F237_oa_mean F237_oa_squares F237_ob_count F237_ob_mean F237_ob_squares E237_oa g_oa ne_ab (by decide) hCr0) hZ (hw _ (List.mem_of_getElem? (i := 19) rfl)) (hw _ (List.mem_of_getElem? (i := 8) rfl)) (by decide) (by decide)) q240a q240c (g := (mkF m 288 #[.val (.int p1), .val (.long p2), .second, .val (.long p3), .second, .val (.long p4), .second, .val (.int sl), .val (.ref b1), .val (.ref b2), .val (.int mm), .val (.int kk), .val (.int nm), .val (.int qq), .val (.int x1), .val (.int x2), .val (.int y1), .val (.int y2), .val (.int z1), .val (.int z2), .val (.ref oa), .val (.ref ob), .val (.ref oc), .unset, .unset, .unset, .unset, .unset, .unset, .unset, .unset, .unset, .unset, .unset, .unset] [(.ref ob), (.ref oa)])) rfl (by rw [hml]; rfl) (Steps.refl _) (argsL := [(.ref ob)]) (rest := []) (lenOf pd_5 rfl) rfl (by show 2 * 0 + _ ≤ _; exact Nat.le_of_eq rfl) (hb hby at_288) (fun _ _ => ⟨rfl, rfl, (by decide : ((5 + 0) + 0) + 0 ≤ _), (by decide : ((23 + 0) + 0) + 0 ≤ _)⟩)
  dsimp only [Pt.U, Pt.locs, Pt.cells, Pt.slots] at X240 l240 y240 z240 st240 hQ240
  subst l240 y240 z240
  obtain ⟨rfl, Nq240, Kc240, Ec240, Fc240, Fm240, Fs240⟩ := hQ240
  have N240 := Fr.app N237 Nq240
  have r241 : Steps p.tables e below S0 (T240.setTop (mkF m 291 #[.val (.int p1), .val (.long p2), .second, .val (.long p3), .second, .val (.long p4), .second, .val (.int sl), .val (.ref b1), .val (.ref b2), .val (.int mm), .val (.int kk), .val (.int nm), .val (.int qq), .val (.int x1), .val (.int x2), .val (.int y1), .val (.int y2), .val (.int z1), .val (.int z2), .val (.ref oa), .val (.ref ob), .val (.ref oc), .unset, .unset, .unset, .unset, .unset, .unset, .unset, .unset, .unset, .unset, .unset, .unset] [(.ref oa)])) := r239.trans st240
  have F240_ob_count := F237_ob_count.keep Kc240 (ninS (Ne.symm ne_ab) nin0)
  have F240_ob_mean := F237_ob_mean.keep Kc240 (ninS (Ne.symm ne_ab) nin0)
  have F240_ob_squares := F237_ob_squares.keep Kc240 (ninS (Ne.symm ne_ab) nin0)
  have F240_oc_count := Fc237.keep Kc240 (ninS (Ne.symm ne_ac) nin0)
  have F240_oc_mean := Fm237.keep Kc240 (ninS (Ne.symm ne_ac) nin0)
  have F240_oc_squares := Fs237.keep Kc240 (ninS (Ne.symm ne_ac) nin0)
  have E240_oa := E237_oa.keep Kc240
  have E240_ob := E237_ob.keep Kc240
  have E240_oc := Ec237.keep Kc240
  have Z240 : n0 ≤ T240.heap.size := Nat.le_trans Z237 Kc240.1
  have O240 := O237.keep Kc240 (allS g_oa (all0))
  obtain ⟨mr1, sr1, hCr1, ymr1, ysr1⟩ := c11 (c1 := ((0 : Int64) + ((0 : Int64) + (1 : Int64)))) (c2 := ((0 : Int64) + (1 : Int64))) (t := ((0 : Int64) + ((0 : Int64) + (1 : Int64))) + ((0 : Int64) + (1 : Int64))) (by decide) (by decide) (by decide) ymr0 ysr0 ymc1 ysc1 (nb1 by1) (nb1 bz1)
  have r242 : Steps p.tables e below S0 (T240.setTop (mkF m 306 #[.val (.int p1), .val (.long p2), .second, .val (.long p3), .second, .val (.long p4), .second, .val (.int sl), .val (.ref b1), .val (.ref b2), .val (.int mm), .val (.int kk), .val (.int nm), .val (.int qq), .val (.int x1), .val (.int x2), .val (.int y1), .val (.int y2), .val (.int z1), .val (.int z2), .val (.ref oa), .val (.ref ob), .val (.ref oc), .val (.ref oa), .unset, .unset, .unset, .unset, .unset, .unset, .unset, .unset, .unset, .unset, .unset] [(.ref oc), (.ref oa)])) := by
    refine r241.trans ?_
    show Steps p.tables e below (T240.setTop (mkF m 291 #[.val (.int p1), .val (.long p2), .second, .val (.long p3), .second, .val (.long p4), .second, .val (.int sl), .val (.ref b1), .val (.ref b2), .val (.int mm), .val (.int kk), .val (.int nm), .val (.int qq), .val (.int x1), .val (.int x2), .val (.int y1), .val (.int y2), .val (.int z1), .val (.int z2), .val (.ref oa), .val (.ref ob), .val (.ref oc), .unset, .unset, .unset, .unset, .unset, .unset, .unset, .unset, .unset, .unset, .unset, .unset] [(.ref oa)])) _
    refine XS.astore X240.here hx rfl (hb hby at_291) rfl rfl (l' := #[.val (.int p1), .val (.long p2), .second, .val (.long p3), .second, .val (.long p4), .second, .val (.int sl), .val (.ref b1), .val (.ref b2), .val (.int mm), .val (.int kk), .val (.int nm), .val (.int qq), .val (.int x1), .val (.int x2), .val (.int y1), .val (.int y2), .val (.int z1), .val (.int z2), .val (.ref oa), .val (.ref ob), .val (.ref oc), .val (.ref oa), .unset, .unset, .unset, .unset, .unset, .unset, .unset, .unset, .unset, .unset, .unset]) rfl ?_
    refine XS.aload X240.here hx rfl (hb hby at_293) rfl rfl ?_
    refine XS.aload X240.here hx rfl (hb hby at_295) rfl rfl ?_
    show Steps p.tables e below (T240.setTop (mkF m 297 #[.val (.int p1), .val (.long p2), .second, .val (.long p3), .second, .val (.long p4), .second, .val (.int sl), .val (.ref b1), .val (.ref b2), .val (.int mm), .val (.int kk), .val (.int nm), .val (.int qq), .val (.int x1), .val (.int x2), .val (.int y1), .val (.int y2), .val (.int z1), .val (.int z2), .val (.ref oa), .val (.ref ob), .val (.ref oc), .val (.ref oa), .unset, .unset, .unset, .unset, .unset, .unset, .unset, .unset, .unset, .unset, .unset] [(.ref oa), (.ref oa)])) _
    refine Jvm.RoadKit.acmp (g := (mkF m 297 #[.val (.int p1), .val (.long p2), .second, .val (.long p3), .second, .val (.long p4), .second, .val (.int sl), .val (.ref b1), .val (.ref b2), .val (.int mm), .val (.int kk), .val (.int nm), .val (.int qq), .val (.int x1), .val (.int x2), .val (.int y1), .val (.int y2), .val (.int z1), .val (.int z2), .val (.ref oa), .val (.ref ob), .val (.ref oc), .val (.ref oa), .unset, .unset, .unset, .unset, .unset, .unset, .unset, .unset, .unset, .unset, .unset] [(.ref oa), (.ref oa)])) X240 hx rfl rfl rfl (pc0 := 297) (pc' := 302) (same := true) rfl (hb hby at_297) rfl (decide_eq_true rfl) (by decide) (by decide) ?_
    refine XS.aload X240.here hx rfl (hb hby at_302) rfl rfl ?_
    refine XS.aload X240.here hx rfl (hb hby at_304) rfl rfl ?_
    exact Steps.refl _
  obtain ⟨cq243, kq243, q243a, q243b, q243c⟩ := isOf hZ rfl Ec240
  obtain ⟨_, _, ⟨T243, L243, k243, n243⟩, -, X243, ⟨Lc243, hQ243, l243, y243, z243⟩, st243⟩ := X240.virtualBack hx (y := (⟨"org/rowfold/aggregate/Moments", "combine", "(Lorg/rowfold/aggregate/Moments;)Lorg/rowfold/aggregate/Moments;"⟩ : MethodName)) (z := (⟨"org/rowfold/aggregate/Moments", "combine", "(Lorg/rowfold/aggregate/Moments;)Lorg/rowfold/aggregate/Moments;"⟩ : MethodName)) hown (mvT hZ (hw _ (List.mem_of_getElem? (i := 15) rfl))) (mvT hZ (hw _ (List.mem_of_getElem? (i := 16) rfl))) (notFace_of_selects (args := #[]) (mvT hZ (hw _ (List.mem_of_getElem? (i := 18) rfl)))) (mvT hZ (hw _ (List.mem_of_getElem? (i := 18) rfl))) (mvT hZ (hw _ (List.mem_of_getElem? (i := 17) rfl))) (by decide) (backOf (W := 0) (rmC1 l Z a0 hw [] oa oc ((0 : Int64) + ((0 : Int64) + (1 : Int64))) mr0 sr0 ((0 : Int64) + (1 : Int64)) mc1 sc1 mr1 sr1 T240.heap n0 Z240 Fc240 Fm240 Fs240 F240_oc_count F240_oc_mean F240_oc_squares Ec240 g_oa ne_ac (by decide) hCr1) hZ (hw _ (List.mem_of_getElem? (i := 19) rfl)) (hw _ (List.mem_of_getElem? (i := 8) rfl)) (by decide) (by decide)) q243a q243c (g := (mkF m 306 #[.val (.int p1), .val (.long p2), .second, .val (.long p3), .second, .val (.long p4), .second, .val (.int sl), .val (.ref b1), .val (.ref b2), .val (.int mm), .val (.int kk), .val (.int nm), .val (.int qq), .val (.int x1), .val (.int x2), .val (.int y1), .val (.int y2), .val (.int z1), .val (.int z2), .val (.ref oa), .val (.ref ob), .val (.ref oc), .val (.ref oa), .unset, .unset, .unset, .unset, .unset, .unset, .unset, .unset, .unset, .unset, .unset] [(.ref oc), (.ref oa)])) rfl (by rw [hml]; rfl) (Steps.refl _) (argsL := [(.ref oc)]) (rest := []) (lenOf pd_5 rfl) rfl (by show 2 * 0 + _ ≤ _; exact Nat.le_of_eq rfl) (hb hby at_306) (fun _ _ => ⟨rfl, rfl, (by decide : (((5 + 0) + 0) + 0) + 0 ≤ _), (by decide : (((23 + 0) + 0) + 0) + 0 ≤ _)⟩)
  dsimp only [Pt.U, Pt.locs, Pt.cells, Pt.slots] at X243 l243 y243 z243 st243 hQ243
  subst l243 y243 z243
  obtain ⟨rfl, Nq243, Kc243, Ec243, Fc243, Fm243, Fs243⟩ := hQ243
  have N243 := Fr.app N240 Nq243
  have r244 : Steps p.tables e below S0 (T243.setTop (mkF m 309 #[.val (.int p1), .val (.long p2), .second, .val (.long p3), .second, .val (.long p4), .second, .val (.int sl), .val (.ref b1), .val (.ref b2), .val (.int mm), .val (.int kk), .val (.int nm), .val (.int qq), .val (.int x1), .val (.int x2), .val (.int y1), .val (.int y2), .val (.int z1), .val (.int z2), .val (.ref oa), .val (.ref ob), .val (.ref oc), .val (.ref oa), .unset, .unset, .unset, .unset, .unset, .unset, .unset, .unset, .unset, .unset, .unset] [(.ref oa)])) := r242.trans st243
  have F243_ob_count := F240_ob_count.keep Kc243 (ninS (Ne.symm ne_ab) nin0)
  have F243_ob_mean := F240_ob_mean.keep Kc243 (ninS (Ne.symm ne_ab) nin0)
  have F243_ob_squares := F240_ob_squares.keep Kc243 (ninS (Ne.symm ne_ab) nin0)
  have F243_oc_count := F240_oc_count.keep Kc243 (ninS (Ne.symm ne_ac) nin0)
  have F243_oc_mean := F240_oc_mean.keep Kc243 (ninS (Ne.symm ne_ac) nin0)
  have F243_oc_squares := F240_oc_squares.keep Kc243 (ninS (Ne.symm ne_ac) nin0)
  have E243_oa := Ec240.keep Kc243
  have E243_ob := E240_ob.keep Kc243
  have E243_oc := E240_oc.keep Kc243
  have Z243 : n0 ≤ T243.heap.size := Nat.le_trans Z240 Kc243.1
  have O243 := O240.keep Kc243 (allS g_oa (all0))
  have r245 : Steps p.tables e below S0 (T243.setTop (mkF m 320 #[.val (.int p1), .val (.long p2), .second, .val (.long p3), .second, .val (.long p4), .second, .val (.int sl), .val (.ref b1), .val (.ref b2), .val (.int mm), .val (.int kk), .val (.int nm), .val (.int qq), .val (.int x1), .val (.int x2), .val (.int y1), .val (.int y2), .val (.int z1), .val (.int z2), .val (.ref oa), .val (.ref ob), .val (.ref oc), .val (.ref oa), .val (.ref oa), .unset, .unset, .unset, .unset, .unset, .unset, .unset, .unset, .unset, .unset] [])) := by
    refine r244.trans ?_
    show Steps p.tables e below (T243.setTop (mkF m 309 #[.val (.int p1), .val (.long p2), .second, .val (.long p3), .second, .val (.long p4), .second, .val (.int sl), .val (.ref b1), .val (.ref b2), .val (.int mm), .val (.int kk), .val (.int nm), .val (.int qq), .val (.int x1), .val (.int x2), .val (.int y1), .val (.int y2), .val (.int z1), .val (.int z2), .val (.ref oa), .val (.ref ob), .val (.ref oc), .val (.ref oa), .unset, .unset, .unset, .unset, .unset, .unset, .unset, .unset, .unset, .unset, .unset] [(.ref oa)])) _
    refine XS.astore X243.here hx rfl (hb hby at_309) rfl rfl (l' := #[.val (.int p1), .val (.long p2), .second, .val (.long p3), .second, .val (.long p4), .second, .val (.int sl), .val (.ref b1), .val (.ref b2), .val (.int mm), .val (.int kk), .val (.int nm), .val (.int qq), .val (.int x1), .val (.int x2), .val (.int y1), .val (.int y2), .val (.int z1), .val (.int z2), .val (.ref oa), .val (.ref ob), .val (.ref oc), .val (.ref oa), .val (.ref oa), .unset, .unset, .unset, .unset, .unset, .unset, .unset, .unset, .unset, .unset]) rfl ?_
    refine XS.aload X243.here hx rfl (hb hby at_311) rfl rfl ?_
    refine XS.aload X243.here hx rfl (hb hby at_313) rfl rfl ?_
    show Steps p.tables e below (T243.setTop (mkF m 315 #[.val (.int p1), .val (.long p2), .second, .val (.long p3), .second, .val (.long p4), .second, .val (.int sl), .val (.ref b1), .val (.ref b2), .val (.int mm), .val (.int kk), .val (.int nm), .val (.int qq), .val (.int x1), .val (.int x2), .val (.int y1), .val (.int y2), .val (.int z1), .val (.int z2), .val (.ref oa), .val (.ref ob), .val (.ref oc), .val (.ref oa), .val (.ref oa), .unset, .unset, .unset, .unset, .unset, .unset, .unset, .unset, .unset, .unset] [(.ref oa), (.ref oa)])) _
    refine Jvm.RoadKit.acmp (g := (mkF m 315 #[.val (.int p1), .val (.long p2), .second, .val (.long p3), .second, .val (.long p4), .second, .val (.int sl), .val (.ref b1), .val (.ref b2), .val (.int mm), .val (.int kk), .val (.int nm), .val (.int qq), .val (.int x1), .val (.int x2), .val (.int y1), .val (.int y2), .val (.int z1), .val (.int z2), .val (.ref oa), .val (.ref ob), .val (.ref oc), .val (.ref oa), .val (.ref oa), .unset, .unset, .unset, .unset, .unset, .unset, .unset, .unset, .unset, .unset] [(.ref oa), (.ref oa)])) X243 hx rfl rfl rfl (pc0 := 315) (pc' := 320) (same := true) rfl (hb hby at_315) rfl (decide_eq_true rfl) (by decide) (by decide) ?_
    exact Steps.refl _
  have htot : nm + qq = 2 := by rw [hn, hq]; decide
  have hid := id2 y1.toInt z1.toInt
  have hW : _ = 2 * SQ - SX * SX := hid.trans (by rw [hSQ, hSX, B0_, B1_, B2_, B3_, B4_, B5_]; simp only [Int.mul_zero, Int.zero_add, Int.add_zero, Int.add_assoc])
  exact ⟨T243, T243.heap, _, (((0 : Int64) + ((0 : Int64) + (1 : Int64))) + ((0 : Int64) + (1 : Int64))), sr1, X243, rfl, N243, O243, Z243, Ec243, Fc243, Fs243, Or.inr (Or.inl ⟨by decide, htot, ysr1.cast hW rfl⟩), r245⟩
set_option maxRecDepth 65536 in
set_option maxHeartbeats 40000000 in
theorem sgB2 {p : Program} {e : Env} {s : State} {m : MethodId} {below : List Frame} {meth : Method} {c : Code} (l : Launch) (Z : State) (a0 : Array Value) (hw : ∀ d ∈ tables_1, d.before a0 Z = true) (p1 : Int32) (p2 p3 p4 : Int64) (hx : p.tables.exec = Jvm.exec) (hby : c.code = code) (hml : c.maxLocals = 35) (hown : s.vm.findClass "org/rowfold/aggregate/MomentsCombinePinLaw" = some m.cls) (hZ : Z.Warmed39 s.vm) (b1 : Addr) (b2 : Addr) (sl : Int32) (mm : Int32) (kk : Int32) (nm : Int32) (qq : Int32) (x1 : Int32) (x2 : Int32) (y1 : Int32) (y2 : Int32) (z1 : Int32) (z2 : Int32) (oa : Addr) (ob : Addr) (oc : Addr) (B0 : Int) (B1 : Int) (B2 : Int) (B3 : Int) (B4 : Int) (B5 : Int) (SX : Int) (SQ : Int) (S0 T0 : State) (h0 : Heap) (L0 : List Loc) (n0 : Nat) (X0 : Stand p l e room_1 s m #[(.int p1), (.long p2), (.long p3), (.long p4)] below meth c T0 L0 5 23) (e0 : T0.heap = h0) (N0 : Fr n0 L0) (O0 : Old Z n0 h0) (Z0 : n0 ≤ h0.size) (bx1 : x1.toInt.natAbs ≤ 1048576) (bx2 : x2.toInt.natAbs ≤ 1048576) (by1 : y1.toInt.natAbs ≤ 1048576) (by2 : y2.toInt.natAbs ≤ 1048576) (bz1 : z1.toInt.natAbs ≤ 1048576) (bz2 : z2.toInt.natAbs ≤ 1048576) (g_oa : n0 ≤ oa) (g_ob : n0 ≤ ob) (g_oc : n0 ≤ oc) (ne_ab : oa ≠ ob) (ne_ac : oa ≠ oc) (ne_bc : ob ≠ oc) (E_oa : Exa Z h0 oa "org/rowfold/aggregate/Moments") (E_ob : Exa Z h0 ob "org/rowfold/aggregate/Moments") (E_oc : Exa Z h0 oc "org/rowfold/aggregate/Moments") (F_oa_count : Fld Z h0 oa "org/rowfold/aggregate/Moments" "count" "J" (.long (0 : Int64))) (F_oa_mean : Fld Z h0 oa "org/rowfold/aggregate/Moments" "mean" "D" (.double (0 : UInt64))) (F_oa_squares : Fld Z h0 oa "org/rowfold/aggregate/Moments" "squares" "D" (.double (0 : UInt64))) (F_ob_count : Fld Z h0 ob "org/rowfold/aggregate/Moments" "count" "J" (.long (0 : Int64))) (F_ob_mean : Fld Z h0 ob "org/rowfold/aggregate/Moments" "mean" "D" (.double (0 : UInt64))) (F_ob_squares : Fld Z h0 ob "org/rowfold/aggregate/Moments" "squares" "D" (.double (0 : UInt64))) (F_oc_count : Fld Z h0 oc "org/rowfold/aggregate/Moments" "count" "J" (.long (0 : Int64))) (F_oc_mean : Fld Z h0 oc "org/rowfold/aggregate/Moments" "mean" "D" (.double (0 : UInt64))) (F_oc_squares : Fld Z h0 oc "org/rowfold/aggregate/Moments" "squares" "D" (.double (0 : UInt64))) (hB0 : B0 = (if mm < (1 : Int32) then 0 else x1.toInt)) (hB1 : B1 = (if mm < (2 : Int32) then 0 else x2.toInt)) (hB2 : B2 = (if kk < (1 : Int32) then 0 else y1.toInt)) (hB3 : B3 = (if kk < (2 : Int32) then 0 else y2.toInt)) (hB4 : B4 = (if qq < (1 : Int32) then 0 else z1.toInt)) (hB5 : B5 = (if qq < (2 : Int32) then 0 else z2.toInt)) (hSX : SX = B0 + B1 + B2 + B3 + B4 + B5) (hSQ : SQ = B0 * B0 + B1 * B1 + B2 * B2 + B3 * B3 + B4 * B4 + B5 * B5) (hm : mm = 0) (hk : kk = 2) (hn : nm = 2) (hqq : ((nm = 1 ∧ qq = 1) ∨ (nm = 2 ∧ qq = 2) ∨ (¬ nm = 1 ∧ ¬ nm = 2 ∧ qq = 0))) (r0 : Steps p.tables e below S0 (T0.setTop (mkF m 203 #[.val (.int p1), .val (.long p2), .second, .val (.long p3), .second, .val (.long p4), .second, .val (.int sl), .val (.ref b1), .val (.ref b2), .val (.int mm), .val (.int kk), .val (.int nm), .val (.int qq), .val (.int x1), .val (.int x2), .val (.int y1), .val (.int y2), .val (.int z1), .val (.int z2), .val (.ref oa), .val (.ref ob), .val (.ref oc), .unset, .unset, .unset, .unset, .unset, .unset, .unset, .unset, .unset, .unset, .unset, .unset] [(.int (1 : Int32)), (.int mm)]))) :
    ∃ (T' : State) (h' : Heap) (L' : List Loc) (cn : Int64) (sq : UInt64), Stand p l e room_1 s m #[(.int p1), (.long p2), (.long p3), (.long p4)] below meth c T' L' 5 23 ∧ T'.heap = h' ∧ Fr n0 L' ∧ Old Z n0 h' ∧ n0 ≤ h'.size ∧ Exa Z h' oa "org/rowfold/aggregate/Moments" ∧ Fld Z h' oa "org/rowfold/aggregate/Moments" "count" "J" (.long cn) ∧ Fld Z h' oa "org/rowfold/aggregate/Moments" "squares" "D" (.double sq) ∧ ((cn.toInt = 0 ∧ nm + qq = 0) ∨ (cn.toInt = 2 ∧ nm + qq = 2 ∧ Dy (2 * SQ - SX * SX) 1 sq) ∨ (cn.toInt = 4 ∧ nm + qq = 4 ∧ Dy (4 * SQ - SX * SX) 2 sq)) ∧ Steps p.tables e below S0 (T'.setTop (mkF m 320 #[.val (.int p1), .val (.long p2), .second, .val (.long p3), .second, .val (.long p4), .second, .val (.int sl), .val (.ref b1), .val (.ref b2), .val (.int mm), .val (.int kk), .val (.int nm), .val (.int qq), .val (.int x1), .val (.int x2), .val (.int y1), .val (.int y2), .val (.int z1), .val (.int z2), .val (.ref oa), .val (.ref ob), .val (.ref oc), .val (.ref oa), .val (.ref oa), .unset, .unset, .unset, .unset, .unset, .unset, .unset, .unset, .unset, .unset] [])) := by
  have hq : qq = 2 := by
    rcases hqq with ⟨z1_, z2_⟩ | ⟨z1_, z2_⟩ | ⟨z1_, z2_, z3_⟩
    · first | exact z2_ | exact absurd (hn.symm.trans z1_) (by decide)
    · first | exact z2_ | exact absurd (hn.symm.trans z1_) (by decide)
    · first | exact z3_ | exact absurd hn z1_ | exact absurd hn z2_
  have B0_ : B0 = 0 := by rw [hB0, hm]; exact if_pos (by decide)
  have B1_ : B1 = 0 := by rw [hB1, hm]; exact if_pos (by decide)
  have B2_ : B2 = y1.toInt := by rw [hB2, hk]; exact if_neg (by decide)
  have B3_ : B3 = y2.toInt := by rw [hB3, hk]; exact if_neg (by decide)
  have B4_ : B4 = z1.toInt := by rw [hB4, hq]; exact if_neg (by decide)
  have B5_ : B5 = z2.toInt := by rw [hB5, hq]; exact if_neg (by decide)
  have hm1_ : mm < (1 : Int32) := by rw [hm]; decide
  have hm2_ : mm < (2 : Int32) := by rw [hm]; decide
  have hk1_ : ¬ kk < (1 : Int32) := by rw [hk]; decide
  have hcb1 : ((0 : Int64) + (1 : Int64)).toInt = 1 := by decide
  obtain ⟨mb1, sb1, hAb1, ymb1, ysb1⟩ := st1 (Dy.i2d y1) (nb1 by1) hcb1
  have r246 : Steps p.tables e below S0 (T0.setTop (mkF m 239 #[.val (.int p1), .val (.long p2), .second, .val (.long p3), .second, .val (.long p4), .second, .val (.int sl), .val (.ref b1), .val (.ref b2), .val (.int mm), .val (.int kk), .val (.int nm), .val (.int qq), .val (.int x1), .val (.int x2), .val (.int y1), .val (.int y2), .val (.int z1), .val (.int z2), .val (.ref oa), .val (.ref ob), .val (.ref oc), .unset, .unset, .unset, .unset, .unset, .unset, .unset, .unset, .unset, .unset, .unset, .unset] [(.double (FP.i2d y1)), (.ref ob)])) := by
    refine r0.trans ?_
    show Steps p.tables e below (T0.setTop (mkF m 203 #[.val (.int p1), .val (.long p2), .second, .val (.long p3), .second, .val (.long p4), .second, .val (.int sl), .val (.ref b1), .val (.ref b2), .val (.int mm), .val (.int kk), .val (.int nm), .val (.int qq), .val (.int x1), .val (.int x2), .val (.int y1), .val (.int y2), .val (.int z1), .val (.int z2), .val (.ref oa), .val (.ref ob), .val (.ref oc), .unset, .unset, .unset, .unset, .unset, .unset, .unset, .unset, .unset, .unset, .unset, .unset] [(.int (1 : Int32)), (.int mm)])) _
    refine XS.icmpYes X0.here hx rfl (pc0 := 203) (pc' := 214) rfl (hb hby at_203) rfl (tlt hm1_).1 (by decide) (by decide) ?_
    refine XS.iload X0.here hx rfl (hb hby at_214) rfl ?_
    refine XS.iconst X0.here hx rfl (hb hby at_216) ?_
    show Steps p.tables e below (T0.setTop (mkF m 217 #[.val (.int p1), .val (.long p2), .second, .val (.long p3), .second, .val (.long p4), .second, .val (.int sl), .val (.ref b1), .val (.ref b2), .val (.int mm), .val (.int kk), .val (.int nm), .val (.int qq), .val (.int x1), .val (.int x2), .val (.int y1), .val (.int y2), .val (.int z1), .val (.int z2), .val (.ref oa), .val (.ref ob), .val (.ref oc), .unset, .unset, .unset, .unset, .unset, .unset, .unset, .unset, .unset, .unset, .unset, .unset] [(.int (2 : Int32)), (.int mm)])) _
    refine XS.icmpYes X0.here hx rfl (pc0 := 217) (pc' := 228) rfl (hb hby at_217) rfl (tlt hm2_).1 (by decide) (by decide) ?_
    refine XS.iload X0.here hx rfl (hb hby at_228) rfl ?_
    refine XS.iconst X0.here hx rfl (hb hby at_230) ?_
    show Steps p.tables e below (T0.setTop (mkF m 231 #[.val (.int p1), .val (.long p2), .second, .val (.long p3), .second, .val (.long p4), .second, .val (.int sl), .val (.ref b1), .val (.ref b2), .val (.int mm), .val (.int kk), .val (.int nm), .val (.int qq), .val (.int x1), .val (.int x2), .val (.int y1), .val (.int y2), .val (.int z1), .val (.int z2), .val (.ref oa), .val (.ref ob), .val (.ref oc), .unset, .unset, .unset, .unset, .unset, .unset, .unset, .unset, .unset, .unset, .unset, .unset] [(.int (1 : Int32)), (.int kk)])) _
    refine XS.icmpNo X0.here hx rfl (hb hby at_231) rfl (flt hk1_).1 ?_
    refine XS.aload X0.here hx rfl (hb hby at_234) rfl rfl ?_
    refine XS.iload X0.here hx rfl (hb hby at_236) rfl ?_
    show Steps p.tables e below (T0.setTop (mkF m 238 #[.val (.int p1), .val (.long p2), .second, .val (.long p3), .second, .val (.long p4), .second, .val (.int sl), .val (.ref b1), .val (.ref b2), .val (.int mm), .val (.int kk), .val (.int nm), .val (.int qq), .val (.int x1), .val (.int x2), .val (.int y1), .val (.int y2), .val (.int z1), .val (.int z2), .val (.ref oa), .val (.ref ob), .val (.ref oc), .unset, .unset, .unset, .unset, .unset, .unset, .unset, .unset, .unset, .unset, .unset, .unset] [(.int y1), (.ref ob)])) _
    refine XS.i2dS X0.here hx rfl (hb hby at_238) rfl rfl ?_
    exact Steps.refl _
  obtain ⟨cq247, kq247, q247a, q247b, q247c⟩ := isOf hZ e0 E_ob
  obtain ⟨_, _, ⟨T247, L247, k247, n247⟩, -, X247, ⟨Lc247, hQ247, l247, y247, z247⟩, st247⟩ := X0.virtualBack hx (y := (⟨"org/rowfold/aggregate/Moments", "add", "(D)V"⟩ : MethodName)) (z := (⟨"org/rowfold/aggregate/Moments", "add", "(D)V"⟩ : MethodName)) hown (mvT hZ (hw _ (List.mem_of_getElem? (i := 45) rfl))) (mvT hZ (hw _ (List.mem_of_getElem? (i := 46) rfl))) (notFace_of_selects (args := #[]) (mvT hZ (hw _ (List.mem_of_getElem? (i := 48) rfl)))) (mvT hZ (hw _ (List.mem_of_getElem? (i := 48) rfl))) (mvT hZ (hw _ (List.mem_of_getElem? (i := 47) rfl))) (by decide) (backOf (W := 0) (rmA l Z a0 hw [] ob (FP.i2d y1) (0 : Int64) (0 : UInt64) (0 : UInt64) mb1 sb1 h0 n0 Z0 F_ob_count F_ob_mean F_ob_squares E_ob g_ob hAb1) hZ (hw _ (List.mem_of_getElem? (i := 49) rfl)) (hw _ (List.mem_of_getElem? (i := 8) rfl)) (by decide) (by decide)) q247a q247c (g := (mkF m 239 #[.val (.int p1), .val (.long p2), .second, .val (.long p3), .second, .val (.long p4), .second, .val (.int sl), .val (.ref b1), .val (.ref b2), .val (.int mm), .val (.int kk), .val (.int nm), .val (.int qq), .val (.int x1), .val (.int x2), .val (.int y1), .val (.int y2), .val (.int z1), .val (.int z2), .val (.ref oa), .val (.ref ob), .val (.ref oc), .unset, .unset, .unset, .unset, .unset, .unset, .unset, .unset, .unset, .unset, .unset, .unset] [(.double (FP.i2d y1)), (.ref ob)])) rfl (by rw [hml]; rfl) (Steps.refl _) (argsL := [(.double (FP.i2d y1))]) (rest := []) (lenOf pd_0 rfl) rfl (by show 2 * 0 + _ ≤ _; exact Nat.le_of_eq rfl) (hb hby at_239) (fun _ _ => ⟨rfl, e0, (by decide : 5 + 0 ≤ _), (by decide : 23 + 0 ≤ _)⟩)
  dsimp only [Pt.U, Pt.locs, Pt.cells, Pt.slots] at X247 l247 y247 z247 st247 hQ247
  subst l247 y247 z247
  obtain ⟨rfl, Nq247, Kc247, Ec247, Fc247, Fm247, Fs247⟩ := hQ247
  have N247 := Fr.app N0 Nq247
  have r248 : Steps p.tables e below S0 (T247.setTop (mkF m 242 #[.val (.int p1), .val (.long p2), .second, .val (.long p3), .second, .val (.long p4), .second, .val (.int sl), .val (.ref b1), .val (.ref b2), .val (.int mm), .val (.int kk), .val (.int nm), .val (.int qq), .val (.int x1), .val (.int x2), .val (.int y1), .val (.int y2), .val (.int z1), .val (.int z2), .val (.ref oa), .val (.ref ob), .val (.ref oc), .unset, .unset, .unset, .unset, .unset, .unset, .unset, .unset, .unset, .unset, .unset, .unset] [])) := r246.trans st247
  have F247_oa_count := F_oa_count.keep Kc247 (ninS ne_ab nin0)
  have F247_oa_mean := F_oa_mean.keep Kc247 (ninS ne_ab nin0)
  have F247_oa_squares := F_oa_squares.keep Kc247 (ninS ne_ab nin0)
  have F247_oc_count := F_oc_count.keep Kc247 (ninS (Ne.symm ne_bc) nin0)
  have F247_oc_mean := F_oc_mean.keep Kc247 (ninS (Ne.symm ne_bc) nin0)
  have F247_oc_squares := F_oc_squares.keep Kc247 (ninS (Ne.symm ne_bc) nin0)
  have E247_oa := E_oa.keep Kc247
  have E247_ob := E_ob.keep Kc247
  have E247_oc := E_oc.keep Kc247
  have Z247 : n0 ≤ T247.heap.size := Nat.le_trans Z0 Kc247.1
  have O247 := O0.keep Kc247 (allS g_ob (all0))
  have hk2_ : ¬ kk < (2 : Int32) := by rw [hk]; decide
  have hcb2 : (((0 : Int64) + (1 : Int64)) + (1 : Int64)).toInt = 2 := by decide
  obtain ⟨mb2, sb2, hAb2, ymb2, ysb2⟩ := st2 (Dy.i2d y2) ymb1 ysb1 (nb1 by1) (nb1 by2) hcb2
  have r249 : Steps p.tables e below S0 (T247.setTop (mkF m 253 #[.val (.int p1), .val (.long p2), .second, .val (.long p3), .second, .val (.long p4), .second, .val (.int sl), .val (.ref b1), .val (.ref b2), .val (.int mm), .val (.int kk), .val (.int nm), .val (.int qq), .val (.int x1), .val (.int x2), .val (.int y1), .val (.int y2), .val (.int z1), .val (.int z2), .val (.ref oa), .val (.ref ob), .val (.ref oc), .unset, .unset, .unset, .unset, .unset, .unset, .unset, .unset, .unset, .unset, .unset, .unset] [(.double (FP.i2d y2)), (.ref ob)])) := by
    refine r248.trans ?_
    show Steps p.tables e below (T247.setTop (mkF m 242 #[.val (.int p1), .val (.long p2), .second, .val (.long p3), .second, .val (.long p4), .second, .val (.int sl), .val (.ref b1), .val (.ref b2), .val (.int mm), .val (.int kk), .val (.int nm), .val (.int qq), .val (.int x1), .val (.int x2), .val (.int y1), .val (.int y2), .val (.int z1), .val (.int z2), .val (.ref oa), .val (.ref ob), .val (.ref oc), .unset, .unset, .unset, .unset, .unset, .unset, .unset, .unset, .unset, .unset, .unset, .unset] [])) _
    refine XS.iload X247.here hx rfl (hb hby at_242) rfl ?_
    refine XS.iconst X247.here hx rfl (hb hby at_244) ?_
    refine XS.icmpNo X247.here hx rfl (hb hby at_245) rfl (flt hk2_).1 ?_
    show Steps p.tables e below (T247.setTop (mkF m 248 #[.val (.int p1), .val (.long p2), .second, .val (.long p3), .second, .val (.long p4), .second, .val (.int sl), .val (.ref b1), .val (.ref b2), .val (.int mm), .val (.int kk), .val (.int nm), .val (.int qq), .val (.int x1), .val (.int x2), .val (.int y1), .val (.int y2), .val (.int z1), .val (.int z2), .val (.ref oa), .val (.ref ob), .val (.ref oc), .unset, .unset, .unset, .unset, .unset, .unset, .unset, .unset, .unset, .unset, .unset, .unset] [])) _
    refine XS.aload X247.here hx rfl (hb hby at_248) rfl rfl ?_
    refine XS.iload X247.here hx rfl (hb hby at_250) rfl ?_
    refine XS.i2dS X247.here hx rfl (hb hby at_252) rfl rfl ?_
    exact Steps.refl _
  obtain ⟨cq250, kq250, q250a, q250b, q250c⟩ := isOf hZ rfl Ec247
  obtain ⟨_, _, ⟨T250, L250, k250, n250⟩, -, X250, ⟨Lc250, hQ250, l250, y250, z250⟩, st250⟩ := X247.virtualBack hx (y := (⟨"org/rowfold/aggregate/Moments", "add", "(D)V"⟩ : MethodName)) (z := (⟨"org/rowfold/aggregate/Moments", "add", "(D)V"⟩ : MethodName)) hown (mvT hZ (hw _ (List.mem_of_getElem? (i := 45) rfl))) (mvT hZ (hw _ (List.mem_of_getElem? (i := 46) rfl))) (notFace_of_selects (args := #[]) (mvT hZ (hw _ (List.mem_of_getElem? (i := 48) rfl)))) (mvT hZ (hw _ (List.mem_of_getElem? (i := 48) rfl))) (mvT hZ (hw _ (List.mem_of_getElem? (i := 47) rfl))) (by decide) (backOf (W := 0) (rmA l Z a0 hw [] ob (FP.i2d y2) ((0 : Int64) + (1 : Int64)) mb1 sb1 mb2 sb2 T247.heap n0 Z247 Fc247 Fm247 Fs247 Ec247 g_ob hAb2) hZ (hw _ (List.mem_of_getElem? (i := 49) rfl)) (hw _ (List.mem_of_getElem? (i := 8) rfl)) (by decide) (by decide)) q250a q250c (g := (mkF m 253 #[.val (.int p1), .val (.long p2), .second, .val (.long p3), .second, .val (.long p4), .second, .val (.int sl), .val (.ref b1), .val (.ref b2), .val (.int mm), .val (.int kk), .val (.int nm), .val (.int qq), .val (.int x1), .val (.int x2), .val (.int y1), .val (.int y2), .val (.int z1), .val (.int z2), .val (.ref oa), .val (.ref ob), .val (.ref oc), .unset, .unset, .unset, .unset, .unset, .unset, .unset, .unset, .unset, .unset, .unset, .unset] [(.double (FP.i2d y2)), (.ref ob)])) rfl (by rw [hml]; rfl) (Steps.refl _) (argsL := [(.double (FP.i2d y2))]) (rest := []) (lenOf pd_0 rfl) rfl (by show 2 * 0 + _ ≤ _; exact Nat.le_of_eq rfl) (hb hby at_253) (fun _ _ => ⟨rfl, rfl, (by decide : (5 + 0) + 0 ≤ _), (by decide : (23 + 0) + 0 ≤ _)⟩)
  dsimp only [Pt.U, Pt.locs, Pt.cells, Pt.slots] at X250 l250 y250 z250 st250 hQ250
  subst l250 y250 z250
  obtain ⟨rfl, Nq250, Kc250, Ec250, Fc250, Fm250, Fs250⟩ := hQ250
  have N250 := Fr.app N247 Nq250
  have r251 : Steps p.tables e below S0 (T250.setTop (mkF m 256 #[.val (.int p1), .val (.long p2), .second, .val (.long p3), .second, .val (.long p4), .second, .val (.int sl), .val (.ref b1), .val (.ref b2), .val (.int mm), .val (.int kk), .val (.int nm), .val (.int qq), .val (.int x1), .val (.int x2), .val (.int y1), .val (.int y2), .val (.int z1), .val (.int z2), .val (.ref oa), .val (.ref ob), .val (.ref oc), .unset, .unset, .unset, .unset, .unset, .unset, .unset, .unset, .unset, .unset, .unset, .unset] [])) := r249.trans st250
  have F250_oa_count := F247_oa_count.keep Kc250 (ninS ne_ab nin0)
  have F250_oa_mean := F247_oa_mean.keep Kc250 (ninS ne_ab nin0)
  have F250_oa_squares := F247_oa_squares.keep Kc250 (ninS ne_ab nin0)
  have F250_oc_count := F247_oc_count.keep Kc250 (ninS (Ne.symm ne_bc) nin0)
  have F250_oc_mean := F247_oc_mean.keep Kc250 (ninS (Ne.symm ne_bc) nin0)
  have F250_oc_squares := F247_oc_squares.keep Kc250 (ninS (Ne.symm ne_bc) nin0)
  have E250_oa := E247_oa.keep Kc250
  have E250_ob := Ec247.keep Kc250
  have E250_oc := E247_oc.keep Kc250
  have Z250 : n0 ≤ T250.heap.size := Nat.le_trans Z247 Kc250.1
  have O250 := O247.keep Kc250 (allS g_ob (all0))
  have hq1_ : ¬ qq < (1 : Int32) := by rw [hq]; decide
  have hcc1 : ((0 : Int64) + (1 : Int64)).toInt = 1 := by decide
  obtain ⟨mc1, sc1, hAc1, ymc1, ysc1⟩ := st1 (Dy.i2d z1) (nb1 bz1) hcc1
  have r252 : Steps p.tables e below S0 (T250.setTop (mkF m 267 #[.val (.int p1), .val (.long p2), .second, .val (.long p3), .second, .val (.long p4), .second, .val (.int sl), .val (.ref b1), .val (.ref b2), .val (.int mm), .val (.int kk), .val (.int nm), .val (.int qq), .val (.int x1), .val (.int x2), .val (.int y1), .val (.int y2), .val (.int z1), .val (.int z2), .val (.ref oa), .val (.ref ob), .val (.ref oc), .unset, .unset, .unset, .unset, .unset, .unset, .unset, .unset, .unset, .unset, .unset, .unset] [(.double (FP.i2d z1)), (.ref oc)])) := by
    refine r251.trans ?_
    show Steps p.tables e below (T250.setTop (mkF m 256 #[.val (.int p1), .val (.long p2), .second, .val (.long p3), .second, .val (.long p4), .second, .val (.int sl), .val (.ref b1), .val (.ref b2), .val (.int mm), .val (.int kk), .val (.int nm), .val (.int qq), .val (.int x1), .val (.int x2), .val (.int y1), .val (.int y2), .val (.int z1), .val (.int z2), .val (.ref oa), .val (.ref ob), .val (.ref oc), .unset, .unset, .unset, .unset, .unset, .unset, .unset, .unset, .unset, .unset, .unset, .unset] [])) _
    refine XS.iload X250.here hx rfl (hb hby at_256) rfl ?_
    refine XS.iconst X250.here hx rfl (hb hby at_258) ?_
    refine XS.icmpNo X250.here hx rfl (hb hby at_259) rfl (flt hq1_).1 ?_
    show Steps p.tables e below (T250.setTop (mkF m 262 #[.val (.int p1), .val (.long p2), .second, .val (.long p3), .second, .val (.long p4), .second, .val (.int sl), .val (.ref b1), .val (.ref b2), .val (.int mm), .val (.int kk), .val (.int nm), .val (.int qq), .val (.int x1), .val (.int x2), .val (.int y1), .val (.int y2), .val (.int z1), .val (.int z2), .val (.ref oa), .val (.ref ob), .val (.ref oc), .unset, .unset, .unset, .unset, .unset, .unset, .unset, .unset, .unset, .unset, .unset, .unset] [])) _
    refine XS.aload X250.here hx rfl (hb hby at_262) rfl rfl ?_
    refine XS.iload X250.here hx rfl (hb hby at_264) rfl ?_
    refine XS.i2dS X250.here hx rfl (hb hby at_266) rfl rfl ?_
    exact Steps.refl _
  obtain ⟨cq253, kq253, q253a, q253b, q253c⟩ := isOf hZ rfl E250_oc
  obtain ⟨_, _, ⟨T253, L253, k253, n253⟩, -, X253, ⟨Lc253, hQ253, l253, y253, z253⟩, st253⟩ := X250.virtualBack hx (y := (⟨"org/rowfold/aggregate/Moments", "add", "(D)V"⟩ : MethodName)) (z := (⟨"org/rowfold/aggregate/Moments", "add", "(D)V"⟩ : MethodName)) hown (mvT hZ (hw _ (List.mem_of_getElem? (i := 45) rfl))) (mvT hZ (hw _ (List.mem_of_getElem? (i := 46) rfl))) (notFace_of_selects (args := #[]) (mvT hZ (hw _ (List.mem_of_getElem? (i := 48) rfl)))) (mvT hZ (hw _ (List.mem_of_getElem? (i := 48) rfl))) (mvT hZ (hw _ (List.mem_of_getElem? (i := 47) rfl))) (by decide) (backOf (W := 0) (rmA l Z a0 hw [] oc (FP.i2d z1) (0 : Int64) (0 : UInt64) (0 : UInt64) mc1 sc1 T250.heap n0 Z250 F250_oc_count F250_oc_mean F250_oc_squares E250_oc g_oc hAc1) hZ (hw _ (List.mem_of_getElem? (i := 49) rfl)) (hw _ (List.mem_of_getElem? (i := 8) rfl)) (by decide) (by decide)) q253a q253c (g := (mkF m 267 #[.val (.int p1), .val (.long p2), .second, .val (.long p3), .second, .val (.long p4), .second, .val (.int sl), .val (.ref b1), .val (.ref b2), .val (.int mm), .val (.int kk), .val (.int nm), .val (.int qq), .val (.int x1), .val (.int x2), .val (.int y1), .val (.int y2), .val (.int z1), .val (.int z2), .val (.ref oa), .val (.ref ob), .val (.ref oc), .unset, .unset, .unset, .unset, .unset, .unset, .unset, .unset, .unset, .unset, .unset, .unset] [(.double (FP.i2d z1)), (.ref oc)])) rfl (by rw [hml]; rfl) (Steps.refl _) (argsL := [(.double (FP.i2d z1))]) (rest := []) (lenOf pd_0 rfl) rfl (by show 2 * 0 + _ ≤ _; exact Nat.le_of_eq rfl) (hb hby at_267) (fun _ _ => ⟨rfl, rfl, (by decide : ((5 + 0) + 0) + 0 ≤ _), (by decide : ((23 + 0) + 0) + 0 ≤ _)⟩)
  dsimp only [Pt.U, Pt.locs, Pt.cells, Pt.slots] at X253 l253 y253 z253 st253 hQ253
  subst l253 y253 z253
  obtain ⟨rfl, Nq253, Kc253, Ec253, Fc253, Fm253, Fs253⟩ := hQ253
  have N253 := Fr.app N250 Nq253
  have r254 : Steps p.tables e below S0 (T253.setTop (mkF m 270 #[.val (.int p1), .val (.long p2), .second, .val (.long p3), .second, .val (.long p4), .second, .val (.int sl), .val (.ref b1), .val (.ref b2), .val (.int mm), .val (.int kk), .val (.int nm), .val (.int qq), .val (.int x1), .val (.int x2), .val (.int y1), .val (.int y2), .val (.int z1), .val (.int z2), .val (.ref oa), .val (.ref ob), .val (.ref oc), .unset, .unset, .unset, .unset, .unset, .unset, .unset, .unset, .unset, .unset, .unset, .unset] [])) := r252.trans st253
  have F253_oa_count := F250_oa_count.keep Kc253 (ninS ne_ac nin0)
  have F253_oa_mean := F250_oa_mean.keep Kc253 (ninS ne_ac nin0)
  have F253_oa_squares := F250_oa_squares.keep Kc253 (ninS ne_ac nin0)
  have F253_ob_count := Fc250.keep Kc253 (ninS ne_bc nin0)
  have F253_ob_mean := Fm250.keep Kc253 (ninS ne_bc nin0)
  have F253_ob_squares := Fs250.keep Kc253 (ninS ne_bc nin0)
  have E253_oa := E250_oa.keep Kc253
  have E253_ob := Ec250.keep Kc253
  have E253_oc := E250_oc.keep Kc253
  have Z253 : n0 ≤ T253.heap.size := Nat.le_trans Z250 Kc253.1
  have O253 := O250.keep Kc253 (allS g_oc (all0))
  have hq2_ : ¬ qq < (2 : Int32) := by rw [hq]; decide
  have hcc2 : (((0 : Int64) + (1 : Int64)) + (1 : Int64)).toInt = 2 := by decide
  obtain ⟨mc2, sc2, hAc2, ymc2, ysc2⟩ := st2 (Dy.i2d z2) ymc1 ysc1 (nb1 bz1) (nb1 bz2) hcc2
  have r255 : Steps p.tables e below S0 (T253.setTop (mkF m 281 #[.val (.int p1), .val (.long p2), .second, .val (.long p3), .second, .val (.long p4), .second, .val (.int sl), .val (.ref b1), .val (.ref b2), .val (.int mm), .val (.int kk), .val (.int nm), .val (.int qq), .val (.int x1), .val (.int x2), .val (.int y1), .val (.int y2), .val (.int z1), .val (.int z2), .val (.ref oa), .val (.ref ob), .val (.ref oc), .unset, .unset, .unset, .unset, .unset, .unset, .unset, .unset, .unset, .unset, .unset, .unset] [(.double (FP.i2d z2)), (.ref oc)])) := by
    refine r254.trans ?_
    show Steps p.tables e below (T253.setTop (mkF m 270 #[.val (.int p1), .val (.long p2), .second, .val (.long p3), .second, .val (.long p4), .second, .val (.int sl), .val (.ref b1), .val (.ref b2), .val (.int mm), .val (.int kk), .val (.int nm), .val (.int qq), .val (.int x1), .val (.int x2), .val (.int y1), .val (.int y2), .val (.int z1), .val (.int z2), .val (.ref oa), .val (.ref ob), .val (.ref oc), .unset, .unset, .unset, .unset, .unset, .unset, .unset, .unset, .unset, .unset, .unset, .unset] [])) _
    refine XS.iload X253.here hx rfl (hb hby at_270) rfl ?_
    refine XS.iconst X253.here hx rfl (hb hby at_272) ?_
    refine XS.icmpNo X253.here hx rfl (hb hby at_273) rfl (flt hq2_).1 ?_
    show Steps p.tables e below (T253.setTop (mkF m 276 #[.val (.int p1), .val (.long p2), .second, .val (.long p3), .second, .val (.long p4), .second, .val (.int sl), .val (.ref b1), .val (.ref b2), .val (.int mm), .val (.int kk), .val (.int nm), .val (.int qq), .val (.int x1), .val (.int x2), .val (.int y1), .val (.int y2), .val (.int z1), .val (.int z2), .val (.ref oa), .val (.ref ob), .val (.ref oc), .unset, .unset, .unset, .unset, .unset, .unset, .unset, .unset, .unset, .unset, .unset, .unset] [])) _
    refine XS.aload X253.here hx rfl (hb hby at_276) rfl rfl ?_
    refine XS.iload X253.here hx rfl (hb hby at_278) rfl ?_
    refine XS.i2dS X253.here hx rfl (hb hby at_280) rfl rfl ?_
    exact Steps.refl _
  obtain ⟨cq256, kq256, q256a, q256b, q256c⟩ := isOf hZ rfl Ec253
  obtain ⟨_, _, ⟨T256, L256, k256, n256⟩, -, X256, ⟨Lc256, hQ256, l256, y256, z256⟩, st256⟩ := X253.virtualBack hx (y := (⟨"org/rowfold/aggregate/Moments", "add", "(D)V"⟩ : MethodName)) (z := (⟨"org/rowfold/aggregate/Moments", "add", "(D)V"⟩ : MethodName)) hown (mvT hZ (hw _ (List.mem_of_getElem? (i := 45) rfl))) (mvT hZ (hw _ (List.mem_of_getElem? (i := 46) rfl))) (notFace_of_selects (args := #[]) (mvT hZ (hw _ (List.mem_of_getElem? (i := 48) rfl)))) (mvT hZ (hw _ (List.mem_of_getElem? (i := 48) rfl))) (mvT hZ (hw _ (List.mem_of_getElem? (i := 47) rfl))) (by decide) (backOf (W := 0) (rmA l Z a0 hw [] oc (FP.i2d z2) ((0 : Int64) + (1 : Int64)) mc1 sc1 mc2 sc2 T253.heap n0 Z253 Fc253 Fm253 Fs253 Ec253 g_oc hAc2) hZ (hw _ (List.mem_of_getElem? (i := 49) rfl)) (hw _ (List.mem_of_getElem? (i := 8) rfl)) (by decide) (by decide)) q256a q256c (g := (mkF m 281 #[.val (.int p1), .val (.long p2), .second, .val (.long p3), .second, .val (.long p4), .second, .val (.int sl), .val (.ref b1), .val (.ref b2), .val (.int mm), .val (.int kk), .val (.int nm), .val (.int qq), .val (.int x1), .val (.int x2), .val (.int y1), .val (.int y2), .val (.int z1), .val (.int z2), .val (.ref oa), .val (.ref ob), .val (.ref oc), .unset, .unset, .unset, .unset, .unset, .unset, .unset, .unset, .unset, .unset, .unset, .unset] [(.double (FP.i2d z2)), (.ref oc)])) rfl (by rw [hml]; rfl) (Steps.refl _) (argsL := [(.double (FP.i2d z2))]) (rest := []) (lenOf pd_0 rfl) rfl (by show 2 * 0 + _ ≤ _; exact Nat.le_of_eq rfl) (hb hby at_281) (fun _ _ => ⟨rfl, rfl, (by decide : (((5 + 0) + 0) + 0) + 0 ≤ _), (by decide : (((23 + 0) + 0) + 0) + 0 ≤ _)⟩)
  dsimp only [Pt.U, Pt.locs, Pt.cells, Pt.slots] at X256 l256 y256 z256 st256 hQ256
  subst l256 y256 z256
  obtain ⟨rfl, Nq256, Kc256, Ec256, Fc256, Fm256, Fs256⟩ := hQ256
  have N256 := Fr.app N253 Nq256
  have r257 : Steps p.tables e below S0 (T256.setTop (mkF m 284 #[.val (.int p1), .val (.long p2), .second, .val (.long p3), .second, .val (.long p4), .second, .val (.int sl), .val (.ref b1), .val (.ref b2), .val (.int mm), .val (.int kk), .val (.int nm), .val (.int qq), .val (.int x1), .val (.int x2), .val (.int y1), .val (.int y2), .val (.int z1), .val (.int z2), .val (.ref oa), .val (.ref ob), .val (.ref oc), .unset, .unset, .unset, .unset, .unset, .unset, .unset, .unset, .unset, .unset, .unset, .unset] [])) := r255.trans st256
  have F256_oa_count := F253_oa_count.keep Kc256 (ninS ne_ac nin0)
  have F256_oa_mean := F253_oa_mean.keep Kc256 (ninS ne_ac nin0)
  have F256_oa_squares := F253_oa_squares.keep Kc256 (ninS ne_ac nin0)
  have F256_ob_count := F253_ob_count.keep Kc256 (ninS ne_bc nin0)
  have F256_ob_mean := F253_ob_mean.keep Kc256 (ninS ne_bc nin0)
  have F256_ob_squares := F253_ob_squares.keep Kc256 (ninS ne_bc nin0)
  have E256_oa := E253_oa.keep Kc256
  have E256_ob := E253_ob.keep Kc256
  have E256_oc := Ec253.keep Kc256
  have Z256 : n0 ≤ T256.heap.size := Nat.le_trans Z253 Kc256.1
  have O256 := O253.keep Kc256 (allS g_oc (all0))
  have qbr0 := sq_le (D := y2.toInt - y1.toInt) (nb3 by1 by2)
  obtain ⟨mr0, sr0, hCr0, ymr0, ysr0⟩ := c02 (c1 := (0 : Int64)) (c2 := (((0 : Int64) + (1 : Int64)) + (1 : Int64))) (t := (0 : Int64) + (((0 : Int64) + (1 : Int64)) + (1 : Int64))) (by decide) (by decide) (by decide) ymb2 ysb2 (nb4 by1 by2) qbr0
  have r258 : Steps p.tables e below S0 (T256.setTop (mkF m 288 #[.val (.int p1), .val (.long p2), .second, .val (.long p3), .second, .val (.long p4), .second, .val (.int sl), .val (.ref b1), .val (.ref b2), .val (.int mm), .val (.int kk), .val (.int nm), .val (.int qq), .val (.int x1), .val (.int x2), .val (.int y1), .val (.int y2), .val (.int z1), .val (.int z2), .val (.ref oa), .val (.ref ob), .val (.ref oc), .unset, .unset, .unset, .unset, .unset, .unset, .unset, .unset, .unset, .unset, .unset, .unset] [(.ref ob), (.ref oa)])) := by
    refine r257.trans ?_
    show Steps p.tables e below (T256.setTop (mkF m 284 #[.val (.int p1), .val (.long p2), .second, .val (.long p3), .second, .val (.long p4), .second, .val (.int sl), .val (.ref b1), .val (.ref b2), .val (.int mm), .val (.int kk), .val (.int nm), .val (.int qq), .val (.int x1), .val (.int x2), .val (.int y1), .val (.int y2), .val (.int z1), .val (.int z2), .val (.ref oa), .val (.ref ob), .val (.ref oc), .unset, .unset, .unset, .unset, .unset, .unset, .unset, .unset, .unset, .unset, .unset, .unset] [])) _
    refine XS.aload X256.here hx rfl (hb hby at_284) rfl rfl ?_
    refine XS.aload X256.here hx rfl (hb hby at_286) rfl rfl ?_
    exact Steps.refl _
  obtain ⟨cq259, kq259, q259a, q259b, q259c⟩ := isOf hZ rfl E256_oa
  obtain ⟨_, _, ⟨T259, L259, k259, n259⟩, -, X259, ⟨Lc259, hQ259, l259, y259, z259⟩, st259⟩ := X256.virtualBack hx (y := (⟨"org/rowfold/aggregate/Moments", "combine", "(Lorg/rowfold/aggregate/Moments;)Lorg/rowfold/aggregate/Moments;"⟩ : MethodName)) (z := (⟨"org/rowfold/aggregate/Moments", "combine", "(Lorg/rowfold/aggregate/Moments;)Lorg/rowfold/aggregate/Moments;"⟩ : MethodName)) hown (mvT hZ (hw _ (List.mem_of_getElem? (i := 15) rfl))) (mvT hZ (hw _ (List.mem_of_getElem? (i := 16) rfl))) (notFace_of_selects (args := #[]) (mvT hZ (hw _ (List.mem_of_getElem? (i := 18) rfl)))) (mvT hZ (hw _ (List.mem_of_getElem? (i := 18) rfl))) (mvT hZ (hw _ (List.mem_of_getElem? (i := 17) rfl))) (by decide) (backOf (W := 0) (rmC1 l Z a0 hw [] oa ob (0 : Int64) (0 : UInt64) (0 : UInt64) (((0 : Int64) + (1 : Int64)) + (1 : Int64)) mb2 sb2 mr0 sr0 T256.heap n0 Z256 F256_oa_count F256_oa_mean F256_oa_squares F256_ob_count F256_ob_mean F256_ob_squares E256_oa g_oa ne_ab (by decide) hCr0) hZ (hw _ (List.mem_of_getElem? (i := 19) rfl)) (hw _ (List.mem_of_getElem? (i := 8) rfl)) (by decide) (by decide)) q259a q259c (g := (mkF m 288 #[.val (.int p1), .val (.long p2), .second, .val (.long p3), .second, .val (.long p4), .second, .val (.int sl), .val (.ref b1), .val (.ref b2), .val (.int mm), .val (.int kk), .val (.int nm), .val (.int qq), .val (.int x1), .val (.int x2), .val (.int y1), .val (.int y2), .val (.int z1), .val (.int z2), .val (.ref oa), .val (.ref ob), .val (.ref oc), .unset, .unset, .unset, .unset, .unset, .unset, .unset, .unset, .unset, .unset, .unset, .unset] [(.ref ob), (.ref oa)])) rfl (by rw [hml]; rfl) (Steps.refl _) (argsL := [(.ref ob)]) (rest := []) (lenOf pd_5 rfl) rfl (by show 2 * 0 + _ ≤ _; exact Nat.le_of_eq rfl) (hb hby at_288) (fun _ _ => ⟨rfl, rfl, (by decide : ((((5 + 0) + 0) + 0) + 0) + 0 ≤ _), (by decide : ((((23 + 0) + 0) + 0) + 0) + 0 ≤ _)⟩)
  dsimp only [Pt.U, Pt.locs, Pt.cells, Pt.slots] at X259 l259 y259 z259 st259 hQ259
  subst l259 y259 z259
  obtain ⟨rfl, Nq259, Kc259, Ec259, Fc259, Fm259, Fs259⟩ := hQ259
  have N259 := Fr.app N256 Nq259
  have r260 : Steps p.tables e below S0 (T259.setTop (mkF m 291 #[.val (.int p1), .val (.long p2), .second, .val (.long p3), .second, .val (.long p4), .second, .val (.int sl), .val (.ref b1), .val (.ref b2), .val (.int mm), .val (.int kk), .val (.int nm), .val (.int qq), .val (.int x1), .val (.int x2), .val (.int y1), .val (.int y2), .val (.int z1), .val (.int z2), .val (.ref oa), .val (.ref ob), .val (.ref oc), .unset, .unset, .unset, .unset, .unset, .unset, .unset, .unset, .unset, .unset, .unset, .unset] [(.ref oa)])) := r258.trans st259
  have F259_ob_count := F256_ob_count.keep Kc259 (ninS (Ne.symm ne_ab) nin0)
  have F259_ob_mean := F256_ob_mean.keep Kc259 (ninS (Ne.symm ne_ab) nin0)
  have F259_ob_squares := F256_ob_squares.keep Kc259 (ninS (Ne.symm ne_ab) nin0)
  have F259_oc_count := Fc256.keep Kc259 (ninS (Ne.symm ne_ac) nin0)
  have F259_oc_mean := Fm256.keep Kc259 (ninS (Ne.symm ne_ac) nin0)
  have F259_oc_squares := Fs256.keep Kc259 (ninS (Ne.symm ne_ac) nin0)
  have E259_oa := E256_oa.keep Kc259
  have E259_ob := E256_ob.keep Kc259
  have E259_oc := Ec256.keep Kc259
  have Z259 : n0 ≤ T259.heap.size := Nat.le_trans Z256 Kc259.1
  have O259 := O256.keep Kc259 (allS g_oa (all0))
  obtain ⟨mr1, sr1, hCr1, ysr1⟩ := c22 (c1 := ((0 : Int64) + (((0 : Int64) + (1 : Int64)) + (1 : Int64)))) (c2 := (((0 : Int64) + (1 : Int64)) + (1 : Int64))) (t := ((0 : Int64) + (((0 : Int64) + (1 : Int64)) + (1 : Int64))) + (((0 : Int64) + (1 : Int64)) + (1 : Int64))) (by decide) (by decide) (by decide) ymr0 ysr0 ymc2 ysc2 (nb2 by1 by2) (nb2 bz1 bz2) (sq_le (nb3 by1 by2)) (sq_le (nb3 bz1 bz2))
  have r261 : Steps p.tables e below S0 (T259.setTop (mkF m 306 #[.val (.int p1), .val (.long p2), .second, .val (.long p3), .second, .val (.long p4), .second, .val (.int sl), .val (.ref b1), .val (.ref b2), .val (.int mm), .val (.int kk), .val (.int nm), .val (.int qq), .val (.int x1), .val (.int x2), .val (.int y1), .val (.int y2), .val (.int z1), .val (.int z2), .val (.ref oa), .val (.ref ob), .val (.ref oc), .val (.ref oa), .unset, .unset, .unset, .unset, .unset, .unset, .unset, .unset, .unset, .unset, .unset] [(.ref oc), (.ref oa)])) := by
    refine r260.trans ?_
    show Steps p.tables e below (T259.setTop (mkF m 291 #[.val (.int p1), .val (.long p2), .second, .val (.long p3), .second, .val (.long p4), .second, .val (.int sl), .val (.ref b1), .val (.ref b2), .val (.int mm), .val (.int kk), .val (.int nm), .val (.int qq), .val (.int x1), .val (.int x2), .val (.int y1), .val (.int y2), .val (.int z1), .val (.int z2), .val (.ref oa), .val (.ref ob), .val (.ref oc), .unset, .unset, .unset, .unset, .unset, .unset, .unset, .unset, .unset, .unset, .unset, .unset] [(.ref oa)])) _
    refine XS.astore X259.here hx rfl (hb hby at_291) rfl rfl (l' := #[.val (.int p1), .val (.long p2), .second, .val (.long p3), .second, .val (.long p4), .second, .val (.int sl), .val (.ref b1), .val (.ref b2), .val (.int mm), .val (.int kk), .val (.int nm), .val (.int qq), .val (.int x1), .val (.int x2), .val (.int y1), .val (.int y2), .val (.int z1), .val (.int z2), .val (.ref oa), .val (.ref ob), .val (.ref oc), .val (.ref oa), .unset, .unset, .unset, .unset, .unset, .unset, .unset, .unset, .unset, .unset, .unset]) rfl ?_
    refine XS.aload X259.here hx rfl (hb hby at_293) rfl rfl ?_
    refine XS.aload X259.here hx rfl (hb hby at_295) rfl rfl ?_
    show Steps p.tables e below (T259.setTop (mkF m 297 #[.val (.int p1), .val (.long p2), .second, .val (.long p3), .second, .val (.long p4), .second, .val (.int sl), .val (.ref b1), .val (.ref b2), .val (.int mm), .val (.int kk), .val (.int nm), .val (.int qq), .val (.int x1), .val (.int x2), .val (.int y1), .val (.int y2), .val (.int z1), .val (.int z2), .val (.ref oa), .val (.ref ob), .val (.ref oc), .val (.ref oa), .unset, .unset, .unset, .unset, .unset, .unset, .unset, .unset, .unset, .unset, .unset] [(.ref oa), (.ref oa)])) _
    refine Jvm.RoadKit.acmp (g := (mkF m 297 #[.val (.int p1), .val (.long p2), .second, .val (.long p3), .second, .val (.long p4), .second, .val (.int sl), .val (.ref b1), .val (.ref b2), .val (.int mm), .val (.int kk), .val (.int nm), .val (.int qq), .val (.int x1), .val (.int x2), .val (.int y1), .val (.int y2), .val (.int z1), .val (.int z2), .val (.ref oa), .val (.ref ob), .val (.ref oc), .val (.ref oa), .unset, .unset, .unset, .unset, .unset, .unset, .unset, .unset, .unset, .unset, .unset] [(.ref oa), (.ref oa)])) X259 hx rfl rfl rfl (pc0 := 297) (pc' := 302) (same := true) rfl (hb hby at_297) rfl (decide_eq_true rfl) (by decide) (by decide) ?_
    refine XS.aload X259.here hx rfl (hb hby at_302) rfl rfl ?_
    refine XS.aload X259.here hx rfl (hb hby at_304) rfl rfl ?_
    exact Steps.refl _
  obtain ⟨cq262, kq262, q262a, q262b, q262c⟩ := isOf hZ rfl Ec259
  obtain ⟨_, _, ⟨T262, L262, k262, n262⟩, -, X262, ⟨Lc262, hQ262, l262, y262, z262⟩, st262⟩ := X259.virtualBack hx (y := (⟨"org/rowfold/aggregate/Moments", "combine", "(Lorg/rowfold/aggregate/Moments;)Lorg/rowfold/aggregate/Moments;"⟩ : MethodName)) (z := (⟨"org/rowfold/aggregate/Moments", "combine", "(Lorg/rowfold/aggregate/Moments;)Lorg/rowfold/aggregate/Moments;"⟩ : MethodName)) hown (mvT hZ (hw _ (List.mem_of_getElem? (i := 15) rfl))) (mvT hZ (hw _ (List.mem_of_getElem? (i := 16) rfl))) (notFace_of_selects (args := #[]) (mvT hZ (hw _ (List.mem_of_getElem? (i := 18) rfl)))) (mvT hZ (hw _ (List.mem_of_getElem? (i := 18) rfl))) (mvT hZ (hw _ (List.mem_of_getElem? (i := 17) rfl))) (by decide) (backOf (W := 0) (rmC1 l Z a0 hw [] oa oc ((0 : Int64) + (((0 : Int64) + (1 : Int64)) + (1 : Int64))) mr0 sr0 (((0 : Int64) + (1 : Int64)) + (1 : Int64)) mc2 sc2 mr1 sr1 T259.heap n0 Z259 Fc259 Fm259 Fs259 F259_oc_count F259_oc_mean F259_oc_squares Ec259 g_oa ne_ac (by decide) hCr1) hZ (hw _ (List.mem_of_getElem? (i := 19) rfl)) (hw _ (List.mem_of_getElem? (i := 8) rfl)) (by decide) (by decide)) q262a q262c (g := (mkF m 306 #[.val (.int p1), .val (.long p2), .second, .val (.long p3), .second, .val (.long p4), .second, .val (.int sl), .val (.ref b1), .val (.ref b2), .val (.int mm), .val (.int kk), .val (.int nm), .val (.int qq), .val (.int x1), .val (.int x2), .val (.int y1), .val (.int y2), .val (.int z1), .val (.int z2), .val (.ref oa), .val (.ref ob), .val (.ref oc), .val (.ref oa), .unset, .unset, .unset, .unset, .unset, .unset, .unset, .unset, .unset, .unset, .unset] [(.ref oc), (.ref oa)])) rfl (by rw [hml]; rfl) (Steps.refl _) (argsL := [(.ref oc)]) (rest := []) (lenOf pd_5 rfl) rfl (by show 2 * 0 + _ ≤ _; exact Nat.le_of_eq rfl) (hb hby at_306) (fun _ _ => ⟨rfl, rfl, (by decide : (((((5 + 0) + 0) + 0) + 0) + 0) + 0 ≤ _), (by decide : (((((23 + 0) + 0) + 0) + 0) + 0) + 0 ≤ _)⟩)
  dsimp only [Pt.U, Pt.locs, Pt.cells, Pt.slots] at X262 l262 y262 z262 st262 hQ262
  subst l262 y262 z262
  obtain ⟨rfl, Nq262, Kc262, Ec262, Fc262, Fm262, Fs262⟩ := hQ262
  have N262 := Fr.app N259 Nq262
  have r263 : Steps p.tables e below S0 (T262.setTop (mkF m 309 #[.val (.int p1), .val (.long p2), .second, .val (.long p3), .second, .val (.long p4), .second, .val (.int sl), .val (.ref b1), .val (.ref b2), .val (.int mm), .val (.int kk), .val (.int nm), .val (.int qq), .val (.int x1), .val (.int x2), .val (.int y1), .val (.int y2), .val (.int z1), .val (.int z2), .val (.ref oa), .val (.ref ob), .val (.ref oc), .val (.ref oa), .unset, .unset, .unset, .unset, .unset, .unset, .unset, .unset, .unset, .unset, .unset] [(.ref oa)])) := r261.trans st262
  have F262_ob_count := F259_ob_count.keep Kc262 (ninS (Ne.symm ne_ab) nin0)
  have F262_ob_mean := F259_ob_mean.keep Kc262 (ninS (Ne.symm ne_ab) nin0)
  have F262_ob_squares := F259_ob_squares.keep Kc262 (ninS (Ne.symm ne_ab) nin0)
  have F262_oc_count := F259_oc_count.keep Kc262 (ninS (Ne.symm ne_ac) nin0)
  have F262_oc_mean := F259_oc_mean.keep Kc262 (ninS (Ne.symm ne_ac) nin0)
  have F262_oc_squares := F259_oc_squares.keep Kc262 (ninS (Ne.symm ne_ac) nin0)
  have E262_oa := Ec259.keep Kc262
  have E262_ob := E259_ob.keep Kc262
  have E262_oc := E259_oc.keep Kc262
  have Z262 : n0 ≤ T262.heap.size := Nat.le_trans Z259 Kc262.1
  have O262 := O259.keep Kc262 (allS g_oa (all0))
  have r264 : Steps p.tables e below S0 (T262.setTop (mkF m 320 #[.val (.int p1), .val (.long p2), .second, .val (.long p3), .second, .val (.long p4), .second, .val (.int sl), .val (.ref b1), .val (.ref b2), .val (.int mm), .val (.int kk), .val (.int nm), .val (.int qq), .val (.int x1), .val (.int x2), .val (.int y1), .val (.int y2), .val (.int z1), .val (.int z2), .val (.ref oa), .val (.ref ob), .val (.ref oc), .val (.ref oa), .val (.ref oa), .unset, .unset, .unset, .unset, .unset, .unset, .unset, .unset, .unset, .unset] [])) := by
    refine r263.trans ?_
    show Steps p.tables e below (T262.setTop (mkF m 309 #[.val (.int p1), .val (.long p2), .second, .val (.long p3), .second, .val (.long p4), .second, .val (.int sl), .val (.ref b1), .val (.ref b2), .val (.int mm), .val (.int kk), .val (.int nm), .val (.int qq), .val (.int x1), .val (.int x2), .val (.int y1), .val (.int y2), .val (.int z1), .val (.int z2), .val (.ref oa), .val (.ref ob), .val (.ref oc), .val (.ref oa), .unset, .unset, .unset, .unset, .unset, .unset, .unset, .unset, .unset, .unset, .unset] [(.ref oa)])) _
    refine XS.astore X262.here hx rfl (hb hby at_309) rfl rfl (l' := #[.val (.int p1), .val (.long p2), .second, .val (.long p3), .second, .val (.long p4), .second, .val (.int sl), .val (.ref b1), .val (.ref b2), .val (.int mm), .val (.int kk), .val (.int nm), .val (.int qq), .val (.int x1), .val (.int x2), .val (.int y1), .val (.int y2), .val (.int z1), .val (.int z2), .val (.ref oa), .val (.ref ob), .val (.ref oc), .val (.ref oa), .val (.ref oa), .unset, .unset, .unset, .unset, .unset, .unset, .unset, .unset, .unset, .unset]) rfl ?_
    refine XS.aload X262.here hx rfl (hb hby at_311) rfl rfl ?_
    refine XS.aload X262.here hx rfl (hb hby at_313) rfl rfl ?_
    show Steps p.tables e below (T262.setTop (mkF m 315 #[.val (.int p1), .val (.long p2), .second, .val (.long p3), .second, .val (.long p4), .second, .val (.int sl), .val (.ref b1), .val (.ref b2), .val (.int mm), .val (.int kk), .val (.int nm), .val (.int qq), .val (.int x1), .val (.int x2), .val (.int y1), .val (.int y2), .val (.int z1), .val (.int z2), .val (.ref oa), .val (.ref ob), .val (.ref oc), .val (.ref oa), .val (.ref oa), .unset, .unset, .unset, .unset, .unset, .unset, .unset, .unset, .unset, .unset] [(.ref oa), (.ref oa)])) _
    refine Jvm.RoadKit.acmp (g := (mkF m 315 #[.val (.int p1), .val (.long p2), .second, .val (.long p3), .second, .val (.long p4), .second, .val (.int sl), .val (.ref b1), .val (.ref b2), .val (.int mm), .val (.int kk), .val (.int nm), .val (.int qq), .val (.int x1), .val (.int x2), .val (.int y1), .val (.int y2), .val (.int z1), .val (.int z2), .val (.ref oa), .val (.ref ob), .val (.ref oc), .val (.ref oa), .val (.ref oa), .unset, .unset, .unset, .unset, .unset, .unset, .unset, .unset, .unset, .unset] [(.ref oa), (.ref oa)])) X262 hx rfl rfl rfl (pc0 := 315) (pc' := 320) (same := true) rfl (hb hby at_315) rfl (decide_eq_true rfl) (by decide) (by decide) ?_
    exact Steps.refl _
  have htot : nm + qq = 4 := by rw [hn, hq]; decide
  have hid := id4 y1.toInt y2.toInt z1.toInt z2.toInt
  have hW : _ = 4 * SQ - SX * SX := hid.trans (by rw [hSQ, hSX, B0_, B1_, B2_, B3_, B4_, B5_]; simp only [Int.mul_zero, Int.zero_add, Int.add_zero, Int.add_assoc])
  exact ⟨T262, T262.heap, _, (((0 : Int64) + (((0 : Int64) + (1 : Int64)) + (1 : Int64))) + (((0 : Int64) + (1 : Int64)) + (1 : Int64))), sr1, X262, rfl, N262, O262, Z262, Ec262, Fc262, Fs262, Or.inr (Or.inr ⟨by decide, htot, ysr1.cast hW rfl⟩), r264⟩
set_option maxRecDepth 65536 in
set_option maxHeartbeats 40000000 in
theorem sgB3 {p : Program} {e : Env} {s : State} {m : MethodId} {below : List Frame} {meth : Method} {c : Code} (l : Launch) (Z : State) (a0 : Array Value) (hw : ∀ d ∈ tables_1, d.before a0 Z = true) (p1 : Int32) (p2 p3 p4 : Int64) (hx : p.tables.exec = Jvm.exec) (hby : c.code = code) (hml : c.maxLocals = 35) (hown : s.vm.findClass "org/rowfold/aggregate/MomentsCombinePinLaw" = some m.cls) (hZ : Z.Warmed39 s.vm) (b1 : Addr) (b2 : Addr) (sl : Int32) (mm : Int32) (kk : Int32) (nm : Int32) (qq : Int32) (x1 : Int32) (x2 : Int32) (y1 : Int32) (y2 : Int32) (z1 : Int32) (z2 : Int32) (oa : Addr) (ob : Addr) (oc : Addr) (B0 : Int) (B1 : Int) (B2 : Int) (B3 : Int) (B4 : Int) (B5 : Int) (SX : Int) (SQ : Int) (S0 T0 : State) (h0 : Heap) (L0 : List Loc) (n0 : Nat) (X0 : Stand p l e room_1 s m #[(.int p1), (.long p2), (.long p3), (.long p4)] below meth c T0 L0 5 23) (e0 : T0.heap = h0) (N0 : Fr n0 L0) (O0 : Old Z n0 h0) (Z0 : n0 ≤ h0.size) (bx1 : x1.toInt.natAbs ≤ 1048576) (bx2 : x2.toInt.natAbs ≤ 1048576) (by1 : y1.toInt.natAbs ≤ 1048576) (by2 : y2.toInt.natAbs ≤ 1048576) (bz1 : z1.toInt.natAbs ≤ 1048576) (bz2 : z2.toInt.natAbs ≤ 1048576) (g_oa : n0 ≤ oa) (g_ob : n0 ≤ ob) (g_oc : n0 ≤ oc) (ne_ab : oa ≠ ob) (ne_ac : oa ≠ oc) (ne_bc : ob ≠ oc) (E_oa : Exa Z h0 oa "org/rowfold/aggregate/Moments") (E_ob : Exa Z h0 ob "org/rowfold/aggregate/Moments") (E_oc : Exa Z h0 oc "org/rowfold/aggregate/Moments") (F_oa_count : Fld Z h0 oa "org/rowfold/aggregate/Moments" "count" "J" (.long (0 : Int64))) (F_oa_mean : Fld Z h0 oa "org/rowfold/aggregate/Moments" "mean" "D" (.double (0 : UInt64))) (F_oa_squares : Fld Z h0 oa "org/rowfold/aggregate/Moments" "squares" "D" (.double (0 : UInt64))) (F_ob_count : Fld Z h0 ob "org/rowfold/aggregate/Moments" "count" "J" (.long (0 : Int64))) (F_ob_mean : Fld Z h0 ob "org/rowfold/aggregate/Moments" "mean" "D" (.double (0 : UInt64))) (F_ob_squares : Fld Z h0 ob "org/rowfold/aggregate/Moments" "squares" "D" (.double (0 : UInt64))) (F_oc_count : Fld Z h0 oc "org/rowfold/aggregate/Moments" "count" "J" (.long (0 : Int64))) (F_oc_mean : Fld Z h0 oc "org/rowfold/aggregate/Moments" "mean" "D" (.double (0 : UInt64))) (F_oc_squares : Fld Z h0 oc "org/rowfold/aggregate/Moments" "squares" "D" (.double (0 : UInt64))) (hB0 : B0 = (if mm < (1 : Int32) then 0 else x1.toInt)) (hB1 : B1 = (if mm < (2 : Int32) then 0 else x2.toInt)) (hB2 : B2 = (if kk < (1 : Int32) then 0 else y1.toInt)) (hB3 : B3 = (if kk < (2 : Int32) then 0 else y2.toInt)) (hB4 : B4 = (if qq < (1 : Int32) then 0 else z1.toInt)) (hB5 : B5 = (if qq < (2 : Int32) then 0 else z2.toInt)) (hSX : SX = B0 + B1 + B2 + B3 + B4 + B5) (hSQ : SQ = B0 * B0 + B1 * B1 + B2 * B2 + B3 * B3 + B4 * B4 + B5 * B5) (hm : mm = 1) (hk : kk = 0) (hn : nm = 1) (hqq : ((nm = 1 ∧ qq = 1) ∨ (nm = 2 ∧ qq = 2) ∨ (¬ nm = 1 ∧ ¬ nm = 2 ∧ qq = 0))) (r0 : Steps p.tables e below S0 (T0.setTop (mkF m 203 #[.val (.int p1), .val (.long p2), .second, .val (.long p3), .second, .val (.long p4), .second, .val (.int sl), .val (.ref b1), .val (.ref b2), .val (.int mm), .val (.int kk), .val (.int nm), .val (.int qq), .val (.int x1), .val (.int x2), .val (.int y1), .val (.int y2), .val (.int z1), .val (.int z2), .val (.ref oa), .val (.ref ob), .val (.ref oc), .unset, .unset, .unset, .unset, .unset, .unset, .unset, .unset, .unset, .unset, .unset, .unset] [(.int (1 : Int32)), (.int mm)]))) :
    ∃ (T' : State) (h' : Heap) (L' : List Loc) (cn : Int64) (sq : UInt64), Stand p l e room_1 s m #[(.int p1), (.long p2), (.long p3), (.long p4)] below meth c T' L' 5 23 ∧ T'.heap = h' ∧ Fr n0 L' ∧ Old Z n0 h' ∧ n0 ≤ h'.size ∧ Exa Z h' oa "org/rowfold/aggregate/Moments" ∧ Fld Z h' oa "org/rowfold/aggregate/Moments" "count" "J" (.long cn) ∧ Fld Z h' oa "org/rowfold/aggregate/Moments" "squares" "D" (.double sq) ∧ ((cn.toInt = 0 ∧ nm + qq = 0) ∨ (cn.toInt = 2 ∧ nm + qq = 2 ∧ Dy (2 * SQ - SX * SX) 1 sq) ∨ (cn.toInt = 4 ∧ nm + qq = 4 ∧ Dy (4 * SQ - SX * SX) 2 sq)) ∧ Steps p.tables e below S0 (T'.setTop (mkF m 320 #[.val (.int p1), .val (.long p2), .second, .val (.long p3), .second, .val (.long p4), .second, .val (.int sl), .val (.ref b1), .val (.ref b2), .val (.int mm), .val (.int kk), .val (.int nm), .val (.int qq), .val (.int x1), .val (.int x2), .val (.int y1), .val (.int y2), .val (.int z1), .val (.int z2), .val (.ref oa), .val (.ref ob), .val (.ref oc), .val (.ref oa), .val (.ref oa), .unset, .unset, .unset, .unset, .unset, .unset, .unset, .unset, .unset, .unset] [])) := by
  have hq : qq = 1 := by
    rcases hqq with ⟨z1_, z2_⟩ | ⟨z1_, z2_⟩ | ⟨z1_, z2_, z3_⟩
    · first | exact z2_ | exact absurd (hn.symm.trans z1_) (by decide)
    · first | exact z2_ | exact absurd (hn.symm.trans z1_) (by decide)
    · first | exact z3_ | exact absurd hn z1_ | exact absurd hn z2_
  have B0_ : B0 = x1.toInt := by rw [hB0, hm]; exact if_neg (by decide)
  have B1_ : B1 = 0 := by rw [hB1, hm]; exact if_pos (by decide)
  have B2_ : B2 = 0 := by rw [hB2, hk]; exact if_pos (by decide)
  have B3_ : B3 = 0 := by rw [hB3, hk]; exact if_pos (by decide)
  have B4_ : B4 = z1.toInt := by rw [hB4, hq]; exact if_neg (by decide)
  have B5_ : B5 = 0 := by rw [hB5, hq]; exact if_pos (by decide)
  have hm1_ : ¬ mm < (1 : Int32) := by rw [hm]; decide
  have hca1 : ((0 : Int64) + (1 : Int64)).toInt = 1 := by decide
  obtain ⟨ma1, sa1, hAa1, yma1, ysa1⟩ := st1 (Dy.i2d x1) (nb1 bx1) hca1
  have r265 : Steps p.tables e below S0 (T0.setTop (mkF m 211 #[.val (.int p1), .val (.long p2), .second, .val (.long p3), .second, .val (.long p4), .second, .val (.int sl), .val (.ref b1), .val (.ref b2), .val (.int mm), .val (.int kk), .val (.int nm), .val (.int qq), .val (.int x1), .val (.int x2), .val (.int y1), .val (.int y2), .val (.int z1), .val (.int z2), .val (.ref oa), .val (.ref ob), .val (.ref oc), .unset, .unset, .unset, .unset, .unset, .unset, .unset, .unset, .unset, .unset, .unset, .unset] [(.double (FP.i2d x1)), (.ref oa)])) := by
    refine r0.trans ?_
    show Steps p.tables e below (T0.setTop (mkF m 203 #[.val (.int p1), .val (.long p2), .second, .val (.long p3), .second, .val (.long p4), .second, .val (.int sl), .val (.ref b1), .val (.ref b2), .val (.int mm), .val (.int kk), .val (.int nm), .val (.int qq), .val (.int x1), .val (.int x2), .val (.int y1), .val (.int y2), .val (.int z1), .val (.int z2), .val (.ref oa), .val (.ref ob), .val (.ref oc), .unset, .unset, .unset, .unset, .unset, .unset, .unset, .unset, .unset, .unset, .unset, .unset] [(.int (1 : Int32)), (.int mm)])) _
    refine XS.icmpNo X0.here hx rfl (hb hby at_203) rfl (flt hm1_).1 ?_
    refine XS.aload X0.here hx rfl (hb hby at_206) rfl rfl ?_
    refine XS.iload X0.here hx rfl (hb hby at_208) rfl ?_
    show Steps p.tables e below (T0.setTop (mkF m 210 #[.val (.int p1), .val (.long p2), .second, .val (.long p3), .second, .val (.long p4), .second, .val (.int sl), .val (.ref b1), .val (.ref b2), .val (.int mm), .val (.int kk), .val (.int nm), .val (.int qq), .val (.int x1), .val (.int x2), .val (.int y1), .val (.int y2), .val (.int z1), .val (.int z2), .val (.ref oa), .val (.ref ob), .val (.ref oc), .unset, .unset, .unset, .unset, .unset, .unset, .unset, .unset, .unset, .unset, .unset, .unset] [(.int x1), (.ref oa)])) _
    refine XS.i2dS X0.here hx rfl (hb hby at_210) rfl rfl ?_
    exact Steps.refl _
  obtain ⟨cq266, kq266, q266a, q266b, q266c⟩ := isOf hZ e0 E_oa
  obtain ⟨_, _, ⟨T266, L266, k266, n266⟩, -, X266, ⟨Lc266, hQ266, l266, y266, z266⟩, st266⟩ := X0.virtualBack hx (y := (⟨"org/rowfold/aggregate/Moments", "add", "(D)V"⟩ : MethodName)) (z := (⟨"org/rowfold/aggregate/Moments", "add", "(D)V"⟩ : MethodName)) hown (mvT hZ (hw _ (List.mem_of_getElem? (i := 45) rfl))) (mvT hZ (hw _ (List.mem_of_getElem? (i := 46) rfl))) (notFace_of_selects (args := #[]) (mvT hZ (hw _ (List.mem_of_getElem? (i := 48) rfl)))) (mvT hZ (hw _ (List.mem_of_getElem? (i := 48) rfl))) (mvT hZ (hw _ (List.mem_of_getElem? (i := 47) rfl))) (by decide) (backOf (W := 0) (rmA l Z a0 hw [] oa (FP.i2d x1) (0 : Int64) (0 : UInt64) (0 : UInt64) ma1 sa1 h0 n0 Z0 F_oa_count F_oa_mean F_oa_squares E_oa g_oa hAa1) hZ (hw _ (List.mem_of_getElem? (i := 49) rfl)) (hw _ (List.mem_of_getElem? (i := 8) rfl)) (by decide) (by decide)) q266a q266c (g := (mkF m 211 #[.val (.int p1), .val (.long p2), .second, .val (.long p3), .second, .val (.long p4), .second, .val (.int sl), .val (.ref b1), .val (.ref b2), .val (.int mm), .val (.int kk), .val (.int nm), .val (.int qq), .val (.int x1), .val (.int x2), .val (.int y1), .val (.int y2), .val (.int z1), .val (.int z2), .val (.ref oa), .val (.ref ob), .val (.ref oc), .unset, .unset, .unset, .unset, .unset, .unset, .unset, .unset, .unset, .unset, .unset, .unset] [(.double (FP.i2d x1)), (.ref oa)])) rfl (by rw [hml]; rfl) (Steps.refl _) (argsL := [(.double (FP.i2d x1))]) (rest := []) (lenOf pd_0 rfl) rfl (by show 2 * 0 + _ ≤ _; exact Nat.le_of_eq rfl) (hb hby at_211) (fun _ _ => ⟨rfl, e0, (by decide : 5 + 0 ≤ _), (by decide : 23 + 0 ≤ _)⟩)
  dsimp only [Pt.U, Pt.locs, Pt.cells, Pt.slots] at X266 l266 y266 z266 st266 hQ266
  subst l266 y266 z266
  obtain ⟨rfl, Nq266, Kc266, Ec266, Fc266, Fm266, Fs266⟩ := hQ266
  have N266 := Fr.app N0 Nq266
  have r267 : Steps p.tables e below S0 (T266.setTop (mkF m 214 #[.val (.int p1), .val (.long p2), .second, .val (.long p3), .second, .val (.long p4), .second, .val (.int sl), .val (.ref b1), .val (.ref b2), .val (.int mm), .val (.int kk), .val (.int nm), .val (.int qq), .val (.int x1), .val (.int x2), .val (.int y1), .val (.int y2), .val (.int z1), .val (.int z2), .val (.ref oa), .val (.ref ob), .val (.ref oc), .unset, .unset, .unset, .unset, .unset, .unset, .unset, .unset, .unset, .unset, .unset, .unset] [])) := r265.trans st266
  have F266_ob_count := F_ob_count.keep Kc266 (ninS (Ne.symm ne_ab) nin0)
  have F266_ob_mean := F_ob_mean.keep Kc266 (ninS (Ne.symm ne_ab) nin0)
  have F266_ob_squares := F_ob_squares.keep Kc266 (ninS (Ne.symm ne_ab) nin0)
  have F266_oc_count := F_oc_count.keep Kc266 (ninS (Ne.symm ne_ac) nin0)
  have F266_oc_mean := F_oc_mean.keep Kc266 (ninS (Ne.symm ne_ac) nin0)
  have F266_oc_squares := F_oc_squares.keep Kc266 (ninS (Ne.symm ne_ac) nin0)
  have E266_oa := E_oa.keep Kc266
  have E266_ob := E_ob.keep Kc266
  have E266_oc := E_oc.keep Kc266
  have Z266 : n0 ≤ T266.heap.size := Nat.le_trans Z0 Kc266.1
  have O266 := O0.keep Kc266 (allS g_oa (all0))
  have hm2_ : mm < (2 : Int32) := by rw [hm]; decide
  have hk1_ : kk < (1 : Int32) := by rw [hk]; decide
  have hk2_ : kk < (2 : Int32) := by rw [hk]; decide
  have hq1_ : ¬ qq < (1 : Int32) := by rw [hq]; decide
  have hcc1 : ((0 : Int64) + (1 : Int64)).toInt = 1 := by decide
  obtain ⟨mc1, sc1, hAc1, ymc1, ysc1⟩ := st1 (Dy.i2d z1) (nb1 bz1) hcc1
  have r268 : Steps p.tables e below S0 (T266.setTop (mkF m 267 #[.val (.int p1), .val (.long p2), .second, .val (.long p3), .second, .val (.long p4), .second, .val (.int sl), .val (.ref b1), .val (.ref b2), .val (.int mm), .val (.int kk), .val (.int nm), .val (.int qq), .val (.int x1), .val (.int x2), .val (.int y1), .val (.int y2), .val (.int z1), .val (.int z2), .val (.ref oa), .val (.ref ob), .val (.ref oc), .unset, .unset, .unset, .unset, .unset, .unset, .unset, .unset, .unset, .unset, .unset, .unset] [(.double (FP.i2d z1)), (.ref oc)])) := by
    refine r267.trans ?_
    show Steps p.tables e below (T266.setTop (mkF m 214 #[.val (.int p1), .val (.long p2), .second, .val (.long p3), .second, .val (.long p4), .second, .val (.int sl), .val (.ref b1), .val (.ref b2), .val (.int mm), .val (.int kk), .val (.int nm), .val (.int qq), .val (.int x1), .val (.int x2), .val (.int y1), .val (.int y2), .val (.int z1), .val (.int z2), .val (.ref oa), .val (.ref ob), .val (.ref oc), .unset, .unset, .unset, .unset, .unset, .unset, .unset, .unset, .unset, .unset, .unset, .unset] [])) _
    refine XS.iload X266.here hx rfl (hb hby at_214) rfl ?_
    refine XS.iconst X266.here hx rfl (hb hby at_216) ?_
    refine XS.icmpYes X266.here hx rfl (pc0 := 217) (pc' := 228) rfl (hb hby at_217) rfl (tlt hm2_).1 (by decide) (by decide) ?_
    show Steps p.tables e below (T266.setTop (mkF m 228 #[.val (.int p1), .val (.long p2), .second, .val (.long p3), .second, .val (.long p4), .second, .val (.int sl), .val (.ref b1), .val (.ref b2), .val (.int mm), .val (.int kk), .val (.int nm), .val (.int qq), .val (.int x1), .val (.int x2), .val (.int y1), .val (.int y2), .val (.int z1), .val (.int z2), .val (.ref oa), .val (.ref ob), .val (.ref oc), .unset, .unset, .unset, .unset, .unset, .unset, .unset, .unset, .unset, .unset, .unset, .unset] [])) _
    refine XS.iload X266.here hx rfl (hb hby at_228) rfl ?_
    refine XS.iconst X266.here hx rfl (hb hby at_230) ?_
    refine XS.icmpYes X266.here hx rfl (pc0 := 231) (pc' := 242) rfl (hb hby at_231) rfl (tlt hk1_).1 (by decide) (by decide) ?_
    show Steps p.tables e below (T266.setTop (mkF m 242 #[.val (.int p1), .val (.long p2), .second, .val (.long p3), .second, .val (.long p4), .second, .val (.int sl), .val (.ref b1), .val (.ref b2), .val (.int mm), .val (.int kk), .val (.int nm), .val (.int qq), .val (.int x1), .val (.int x2), .val (.int y1), .val (.int y2), .val (.int z1), .val (.int z2), .val (.ref oa), .val (.ref ob), .val (.ref oc), .unset, .unset, .unset, .unset, .unset, .unset, .unset, .unset, .unset, .unset, .unset, .unset] [])) _
    refine XS.iload X266.here hx rfl (hb hby at_242) rfl ?_
    refine XS.iconst X266.here hx rfl (hb hby at_244) ?_
    refine XS.icmpYes X266.here hx rfl (pc0 := 245) (pc' := 256) rfl (hb hby at_245) rfl (tlt hk2_).1 (by decide) (by decide) ?_
    show Steps p.tables e below (T266.setTop (mkF m 256 #[.val (.int p1), .val (.long p2), .second, .val (.long p3), .second, .val (.long p4), .second, .val (.int sl), .val (.ref b1), .val (.ref b2), .val (.int mm), .val (.int kk), .val (.int nm), .val (.int qq), .val (.int x1), .val (.int x2), .val (.int y1), .val (.int y2), .val (.int z1), .val (.int z2), .val (.ref oa), .val (.ref ob), .val (.ref oc), .unset, .unset, .unset, .unset, .unset, .unset, .unset, .unset, .unset, .unset, .unset, .unset] [])) _
    refine XS.iload X266.here hx rfl (hb hby at_256) rfl ?_
    refine XS.iconst X266.here hx rfl (hb hby at_258) ?_
    refine XS.icmpNo X266.here hx rfl (hb hby at_259) rfl (flt hq1_).1 ?_
    show Steps p.tables e below (T266.setTop (mkF m 262 #[.val (.int p1), .val (.long p2), .second, .val (.long p3), .second, .val (.long p4), .second, .val (.int sl), .val (.ref b1), .val (.ref b2), .val (.int mm), .val (.int kk), .val (.int nm), .val (.int qq), .val (.int x1), .val (.int x2), .val (.int y1), .val (.int y2), .val (.int z1), .val (.int z2), .val (.ref oa), .val (.ref ob), .val (.ref oc), .unset, .unset, .unset, .unset, .unset, .unset, .unset, .unset, .unset, .unset, .unset, .unset] [])) _
    refine XS.aload X266.here hx rfl (hb hby at_262) rfl rfl ?_
    refine XS.iload X266.here hx rfl (hb hby at_264) rfl ?_
    refine XS.i2dS X266.here hx rfl (hb hby at_266) rfl rfl ?_
    exact Steps.refl _
  obtain ⟨cq269, kq269, q269a, q269b, q269c⟩ := isOf hZ rfl E266_oc
  obtain ⟨_, _, ⟨T269, L269, k269, n269⟩, -, X269, ⟨Lc269, hQ269, l269, y269, z269⟩, st269⟩ := X266.virtualBack hx (y := (⟨"org/rowfold/aggregate/Moments", "add", "(D)V"⟩ : MethodName)) (z := (⟨"org/rowfold/aggregate/Moments", "add", "(D)V"⟩ : MethodName)) hown (mvT hZ (hw _ (List.mem_of_getElem? (i := 45) rfl))) (mvT hZ (hw _ (List.mem_of_getElem? (i := 46) rfl))) (notFace_of_selects (args := #[]) (mvT hZ (hw _ (List.mem_of_getElem? (i := 48) rfl)))) (mvT hZ (hw _ (List.mem_of_getElem? (i := 48) rfl))) (mvT hZ (hw _ (List.mem_of_getElem? (i := 47) rfl))) (by decide) (backOf (W := 0) (rmA l Z a0 hw [] oc (FP.i2d z1) (0 : Int64) (0 : UInt64) (0 : UInt64) mc1 sc1 T266.heap n0 Z266 F266_oc_count F266_oc_mean F266_oc_squares E266_oc g_oc hAc1) hZ (hw _ (List.mem_of_getElem? (i := 49) rfl)) (hw _ (List.mem_of_getElem? (i := 8) rfl)) (by decide) (by decide)) q269a q269c (g := (mkF m 267 #[.val (.int p1), .val (.long p2), .second, .val (.long p3), .second, .val (.long p4), .second, .val (.int sl), .val (.ref b1), .val (.ref b2), .val (.int mm), .val (.int kk), .val (.int nm), .val (.int qq), .val (.int x1), .val (.int x2), .val (.int y1), .val (.int y2), .val (.int z1), .val (.int z2), .val (.ref oa), .val (.ref ob), .val (.ref oc), .unset, .unset, .unset, .unset, .unset, .unset, .unset, .unset, .unset, .unset, .unset, .unset] [(.double (FP.i2d z1)), (.ref oc)])) rfl (by rw [hml]; rfl) (Steps.refl _) (argsL := [(.double (FP.i2d z1))]) (rest := []) (lenOf pd_0 rfl) rfl (by show 2 * 0 + _ ≤ _; exact Nat.le_of_eq rfl) (hb hby at_267) (fun _ _ => ⟨rfl, rfl, (by decide : (5 + 0) + 0 ≤ _), (by decide : (23 + 0) + 0 ≤ _)⟩)
  dsimp only [Pt.U, Pt.locs, Pt.cells, Pt.slots] at X269 l269 y269 z269 st269 hQ269
  subst l269 y269 z269
  obtain ⟨rfl, Nq269, Kc269, Ec269, Fc269, Fm269, Fs269⟩ := hQ269
  have N269 := Fr.app N266 Nq269
  have r270 : Steps p.tables e below S0 (T269.setTop (mkF m 270 #[.val (.int p1), .val (.long p2), .second, .val (.long p3), .second, .val (.long p4), .second, .val (.int sl), .val (.ref b1), .val (.ref b2), .val (.int mm), .val (.int kk), .val (.int nm), .val (.int qq), .val (.int x1), .val (.int x2), .val (.int y1), .val (.int y2), .val (.int z1), .val (.int z2), .val (.ref oa), .val (.ref ob), .val (.ref oc), .unset, .unset, .unset, .unset, .unset, .unset, .unset, .unset, .unset, .unset, .unset, .unset] [])) := r268.trans st269
  have F269_ob_count := F266_ob_count.keep Kc269 (ninS ne_bc nin0)
  have F269_ob_mean := F266_ob_mean.keep Kc269 (ninS ne_bc nin0)
  have F269_ob_squares := F266_ob_squares.keep Kc269 (ninS ne_bc nin0)
  have F269_oa_count := Fc266.keep Kc269 (ninS ne_ac nin0)
  have F269_oa_mean := Fm266.keep Kc269 (ninS ne_ac nin0)
  have F269_oa_squares := Fs266.keep Kc269 (ninS ne_ac nin0)
  have E269_oa := Ec266.keep Kc269
  have E269_ob := E266_ob.keep Kc269
  have E269_oc := E266_oc.keep Kc269
  have Z269 : n0 ≤ T269.heap.size := Nat.le_trans Z266 Kc269.1
  have O269 := O266.keep Kc269 (allS g_oc (all0))
  have hq2_ : qq < (2 : Int32) := by rw [hq]; decide
  have r271 : Steps p.tables e below S0 (T269.setTop (mkF m 288 #[.val (.int p1), .val (.long p2), .second, .val (.long p3), .second, .val (.long p4), .second, .val (.int sl), .val (.ref b1), .val (.ref b2), .val (.int mm), .val (.int kk), .val (.int nm), .val (.int qq), .val (.int x1), .val (.int x2), .val (.int y1), .val (.int y2), .val (.int z1), .val (.int z2), .val (.ref oa), .val (.ref ob), .val (.ref oc), .unset, .unset, .unset, .unset, .unset, .unset, .unset, .unset, .unset, .unset, .unset, .unset] [(.ref ob), (.ref oa)])) := by
    refine r270.trans ?_
    show Steps p.tables e below (T269.setTop (mkF m 270 #[.val (.int p1), .val (.long p2), .second, .val (.long p3), .second, .val (.long p4), .second, .val (.int sl), .val (.ref b1), .val (.ref b2), .val (.int mm), .val (.int kk), .val (.int nm), .val (.int qq), .val (.int x1), .val (.int x2), .val (.int y1), .val (.int y2), .val (.int z1), .val (.int z2), .val (.ref oa), .val (.ref ob), .val (.ref oc), .unset, .unset, .unset, .unset, .unset, .unset, .unset, .unset, .unset, .unset, .unset, .unset] [])) _
    refine XS.iload X269.here hx rfl (hb hby at_270) rfl ?_
    refine XS.iconst X269.here hx rfl (hb hby at_272) ?_
    refine XS.icmpYes X269.here hx rfl (pc0 := 273) (pc' := 284) rfl (hb hby at_273) rfl (tlt hq2_).1 (by decide) (by decide) ?_
    show Steps p.tables e below (T269.setTop (mkF m 284 #[.val (.int p1), .val (.long p2), .second, .val (.long p3), .second, .val (.long p4), .second, .val (.int sl), .val (.ref b1), .val (.ref b2), .val (.int mm), .val (.int kk), .val (.int nm), .val (.int qq), .val (.int x1), .val (.int x2), .val (.int y1), .val (.int y2), .val (.int z1), .val (.int z2), .val (.ref oa), .val (.ref ob), .val (.ref oc), .unset, .unset, .unset, .unset, .unset, .unset, .unset, .unset, .unset, .unset, .unset, .unset] [])) _
    refine XS.aload X269.here hx rfl (hb hby at_284) rfl rfl ?_
    refine XS.aload X269.here hx rfl (hb hby at_286) rfl rfl ?_
    exact Steps.refl _
  obtain ⟨cq272, kq272, q272a, q272b, q272c⟩ := isOf hZ rfl E269_oa
  obtain ⟨_, _, ⟨T272, L272, k272, n272⟩, -, X272, ⟨Lc272, hQ272, l272, y272, z272⟩, st272⟩ := X269.virtualBack hx (y := (⟨"org/rowfold/aggregate/Moments", "combine", "(Lorg/rowfold/aggregate/Moments;)Lorg/rowfold/aggregate/Moments;"⟩ : MethodName)) (z := (⟨"org/rowfold/aggregate/Moments", "combine", "(Lorg/rowfold/aggregate/Moments;)Lorg/rowfold/aggregate/Moments;"⟩ : MethodName)) hown (mvT hZ (hw _ (List.mem_of_getElem? (i := 15) rfl))) (mvT hZ (hw _ (List.mem_of_getElem? (i := 16) rfl))) (notFace_of_selects (args := #[]) (mvT hZ (hw _ (List.mem_of_getElem? (i := 18) rfl)))) (mvT hZ (hw _ (List.mem_of_getElem? (i := 18) rfl))) (mvT hZ (hw _ (List.mem_of_getElem? (i := 17) rfl))) (by decide) (backOf (W := 0) (rmC0 l Z a0 hw [] oa ob (0 : Int64) T269.heap n0 Z269 F269_ob_count (by decide)) hZ (hw _ (List.mem_of_getElem? (i := 19) rfl)) (hw _ (List.mem_of_getElem? (i := 8) rfl)) (by decide) (by decide)) q272a q272c (g := (mkF m 288 #[.val (.int p1), .val (.long p2), .second, .val (.long p3), .second, .val (.long p4), .second, .val (.int sl), .val (.ref b1), .val (.ref b2), .val (.int mm), .val (.int kk), .val (.int nm), .val (.int qq), .val (.int x1), .val (.int x2), .val (.int y1), .val (.int y2), .val (.int z1), .val (.int z2), .val (.ref oa), .val (.ref ob), .val (.ref oc), .unset, .unset, .unset, .unset, .unset, .unset, .unset, .unset, .unset, .unset, .unset, .unset] [(.ref ob), (.ref oa)])) rfl (by rw [hml]; rfl) (Steps.refl _) (argsL := [(.ref ob)]) (rest := []) (lenOf pd_5 rfl) rfl (by show 2 * 0 + _ ≤ _; exact Nat.le_of_eq rfl) (hb hby at_288) (fun _ _ => ⟨rfl, rfl, (by decide : ((5 + 0) + 0) + 0 ≤ _), (by decide : ((23 + 0) + 0) + 0 ≤ _)⟩)
  dsimp only [Pt.U, Pt.locs, Pt.cells, Pt.slots] at X272 l272 y272 z272 st272 hQ272
  subst l272 y272 z272
  obtain ⟨rfl, Nq272, e272⟩ := hQ272
  have N272 := Fr.app N269 Nq272
  have r273 : Steps p.tables e below S0 (T272.setTop (mkF m 291 #[.val (.int p1), .val (.long p2), .second, .val (.long p3), .second, .val (.long p4), .second, .val (.int sl), .val (.ref b1), .val (.ref b2), .val (.int mm), .val (.int kk), .val (.int nm), .val (.int qq), .val (.int x1), .val (.int x2), .val (.int y1), .val (.int y2), .val (.int z1), .val (.int z2), .val (.ref oa), .val (.ref ob), .val (.ref oc), .unset, .unset, .unset, .unset, .unset, .unset, .unset, .unset, .unset, .unset, .unset, .unset] [(.ref oa)])) := r271.trans st272
  obtain ⟨mr1, sr1, hCr1, ymr1, ysr1⟩ := c11 (c1 := ((0 : Int64) + (1 : Int64))) (c2 := ((0 : Int64) + (1 : Int64))) (t := ((0 : Int64) + (1 : Int64)) + ((0 : Int64) + (1 : Int64))) (by decide) (by decide) (by decide) yma1 ysa1 ymc1 ysc1 (nb1 bx1) (nb1 bz1)
  have r274 : Steps p.tables e below S0 (T272.setTop (mkF m 306 #[.val (.int p1), .val (.long p2), .second, .val (.long p3), .second, .val (.long p4), .second, .val (.int sl), .val (.ref b1), .val (.ref b2), .val (.int mm), .val (.int kk), .val (.int nm), .val (.int qq), .val (.int x1), .val (.int x2), .val (.int y1), .val (.int y2), .val (.int z1), .val (.int z2), .val (.ref oa), .val (.ref ob), .val (.ref oc), .val (.ref oa), .unset, .unset, .unset, .unset, .unset, .unset, .unset, .unset, .unset, .unset, .unset] [(.ref oc), (.ref oa)])) := by
    refine r273.trans ?_
    show Steps p.tables e below (T272.setTop (mkF m 291 #[.val (.int p1), .val (.long p2), .second, .val (.long p3), .second, .val (.long p4), .second, .val (.int sl), .val (.ref b1), .val (.ref b2), .val (.int mm), .val (.int kk), .val (.int nm), .val (.int qq), .val (.int x1), .val (.int x2), .val (.int y1), .val (.int y2), .val (.int z1), .val (.int z2), .val (.ref oa), .val (.ref ob), .val (.ref oc), .unset, .unset, .unset, .unset, .unset, .unset, .unset, .unset, .unset, .unset, .unset, .unset] [(.ref oa)])) _
    refine XS.astore X272.here hx rfl (hb hby at_291) rfl rfl (l' := #[.val (.int p1), .val (.long p2), .second, .val (.long p3), .second, .val (.long p4), .second, .val (.int sl), .val (.ref b1), .val (.ref b2), .val (.int mm), .val (.int kk), .val (.int nm), .val (.int qq), .val (.int x1), .val (.int x2), .val (.int y1), .val (.int y2), .val (.int z1), .val (.int z2), .val (.ref oa), .val (.ref ob), .val (.ref oc), .val (.ref oa), .unset, .unset, .unset, .unset, .unset, .unset, .unset, .unset, .unset, .unset, .unset]) rfl ?_
    refine XS.aload X272.here hx rfl (hb hby at_293) rfl rfl ?_
    refine XS.aload X272.here hx rfl (hb hby at_295) rfl rfl ?_
    show Steps p.tables e below (T272.setTop (mkF m 297 #[.val (.int p1), .val (.long p2), .second, .val (.long p3), .second, .val (.long p4), .second, .val (.int sl), .val (.ref b1), .val (.ref b2), .val (.int mm), .val (.int kk), .val (.int nm), .val (.int qq), .val (.int x1), .val (.int x2), .val (.int y1), .val (.int y2), .val (.int z1), .val (.int z2), .val (.ref oa), .val (.ref ob), .val (.ref oc), .val (.ref oa), .unset, .unset, .unset, .unset, .unset, .unset, .unset, .unset, .unset, .unset, .unset] [(.ref oa), (.ref oa)])) _
    refine Jvm.RoadKit.acmp (g := (mkF m 297 #[.val (.int p1), .val (.long p2), .second, .val (.long p3), .second, .val (.long p4), .second, .val (.int sl), .val (.ref b1), .val (.ref b2), .val (.int mm), .val (.int kk), .val (.int nm), .val (.int qq), .val (.int x1), .val (.int x2), .val (.int y1), .val (.int y2), .val (.int z1), .val (.int z2), .val (.ref oa), .val (.ref ob), .val (.ref oc), .val (.ref oa), .unset, .unset, .unset, .unset, .unset, .unset, .unset, .unset, .unset, .unset, .unset] [(.ref oa), (.ref oa)])) X272 hx rfl rfl rfl (pc0 := 297) (pc' := 302) (same := true) rfl (hb hby at_297) rfl (decide_eq_true rfl) (by decide) (by decide) ?_
    refine XS.aload X272.here hx rfl (hb hby at_302) rfl rfl ?_
    refine XS.aload X272.here hx rfl (hb hby at_304) rfl rfl ?_
    exact Steps.refl _
  obtain ⟨cq275, kq275, q275a, q275b, q275c⟩ := isOf hZ e272 E269_oa
  obtain ⟨_, _, ⟨T275, L275, k275, n275⟩, -, X275, ⟨Lc275, hQ275, l275, y275, z275⟩, st275⟩ := X272.virtualBack hx (y := (⟨"org/rowfold/aggregate/Moments", "combine", "(Lorg/rowfold/aggregate/Moments;)Lorg/rowfold/aggregate/Moments;"⟩ : MethodName)) (z := (⟨"org/rowfold/aggregate/Moments", "combine", "(Lorg/rowfold/aggregate/Moments;)Lorg/rowfold/aggregate/Moments;"⟩ : MethodName)) hown (mvT hZ (hw _ (List.mem_of_getElem? (i := 15) rfl))) (mvT hZ (hw _ (List.mem_of_getElem? (i := 16) rfl))) (notFace_of_selects (args := #[]) (mvT hZ (hw _ (List.mem_of_getElem? (i := 18) rfl)))) (mvT hZ (hw _ (List.mem_of_getElem? (i := 18) rfl))) (mvT hZ (hw _ (List.mem_of_getElem? (i := 17) rfl))) (by decide) (backOf (W := 0) (rmC1 l Z a0 hw [] oa oc ((0 : Int64) + (1 : Int64)) ma1 sa1 ((0 : Int64) + (1 : Int64)) mc1 sc1 mr1 sr1 T269.heap n0 Z269 F269_oa_count F269_oa_mean F269_oa_squares Fc269 Fm269 Fs269 E269_oa g_oa ne_ac (by decide) hCr1) hZ (hw _ (List.mem_of_getElem? (i := 19) rfl)) (hw _ (List.mem_of_getElem? (i := 8) rfl)) (by decide) (by decide)) q275a q275c (g := (mkF m 306 #[.val (.int p1), .val (.long p2), .second, .val (.long p3), .second, .val (.long p4), .second, .val (.int sl), .val (.ref b1), .val (.ref b2), .val (.int mm), .val (.int kk), .val (.int nm), .val (.int qq), .val (.int x1), .val (.int x2), .val (.int y1), .val (.int y2), .val (.int z1), .val (.int z2), .val (.ref oa), .val (.ref ob), .val (.ref oc), .val (.ref oa), .unset, .unset, .unset, .unset, .unset, .unset, .unset, .unset, .unset, .unset, .unset] [(.ref oc), (.ref oa)])) rfl (by rw [hml]; rfl) (Steps.refl _) (argsL := [(.ref oc)]) (rest := []) (lenOf pd_5 rfl) rfl (by show 2 * 0 + _ ≤ _; exact Nat.le_of_eq rfl) (hb hby at_306) (fun _ _ => ⟨rfl, e272, (by decide : (((5 + 0) + 0) + 0) + 0 ≤ _), (by decide : (((23 + 0) + 0) + 0) + 0 ≤ _)⟩)
  dsimp only [Pt.U, Pt.locs, Pt.cells, Pt.slots] at X275 l275 y275 z275 st275 hQ275
  subst l275 y275 z275
  obtain ⟨rfl, Nq275, Kc275, Ec275, Fc275, Fm275, Fs275⟩ := hQ275
  have N275 := Fr.app N272 Nq275
  have r276 : Steps p.tables e below S0 (T275.setTop (mkF m 309 #[.val (.int p1), .val (.long p2), .second, .val (.long p3), .second, .val (.long p4), .second, .val (.int sl), .val (.ref b1), .val (.ref b2), .val (.int mm), .val (.int kk), .val (.int nm), .val (.int qq), .val (.int x1), .val (.int x2), .val (.int y1), .val (.int y2), .val (.int z1), .val (.int z2), .val (.ref oa), .val (.ref ob), .val (.ref oc), .val (.ref oa), .unset, .unset, .unset, .unset, .unset, .unset, .unset, .unset, .unset, .unset, .unset] [(.ref oa)])) := r274.trans st275
  have F275_ob_count := F269_ob_count.keep Kc275 (ninS (Ne.symm ne_ab) nin0)
  have F275_ob_mean := F269_ob_mean.keep Kc275 (ninS (Ne.symm ne_ab) nin0)
  have F275_ob_squares := F269_ob_squares.keep Kc275 (ninS (Ne.symm ne_ab) nin0)
  have F275_oc_count := Fc269.keep Kc275 (ninS (Ne.symm ne_ac) nin0)
  have F275_oc_mean := Fm269.keep Kc275 (ninS (Ne.symm ne_ac) nin0)
  have F275_oc_squares := Fs269.keep Kc275 (ninS (Ne.symm ne_ac) nin0)
  have E275_oa := E269_oa.keep Kc275
  have E275_ob := E269_ob.keep Kc275
  have E275_oc := Ec269.keep Kc275
  have Z275 : n0 ≤ T275.heap.size := Nat.le_trans Z269 Kc275.1
  have O275 := O269.keep Kc275 (allS g_oa (all0))
  have r277 : Steps p.tables e below S0 (T275.setTop (mkF m 320 #[.val (.int p1), .val (.long p2), .second, .val (.long p3), .second, .val (.long p4), .second, .val (.int sl), .val (.ref b1), .val (.ref b2), .val (.int mm), .val (.int kk), .val (.int nm), .val (.int qq), .val (.int x1), .val (.int x2), .val (.int y1), .val (.int y2), .val (.int z1), .val (.int z2), .val (.ref oa), .val (.ref ob), .val (.ref oc), .val (.ref oa), .val (.ref oa), .unset, .unset, .unset, .unset, .unset, .unset, .unset, .unset, .unset, .unset] [])) := by
    refine r276.trans ?_
    show Steps p.tables e below (T275.setTop (mkF m 309 #[.val (.int p1), .val (.long p2), .second, .val (.long p3), .second, .val (.long p4), .second, .val (.int sl), .val (.ref b1), .val (.ref b2), .val (.int mm), .val (.int kk), .val (.int nm), .val (.int qq), .val (.int x1), .val (.int x2), .val (.int y1), .val (.int y2), .val (.int z1), .val (.int z2), .val (.ref oa), .val (.ref ob), .val (.ref oc), .val (.ref oa), .unset, .unset, .unset, .unset, .unset, .unset, .unset, .unset, .unset, .unset, .unset] [(.ref oa)])) _
    refine XS.astore X275.here hx rfl (hb hby at_309) rfl rfl (l' := #[.val (.int p1), .val (.long p2), .second, .val (.long p3), .second, .val (.long p4), .second, .val (.int sl), .val (.ref b1), .val (.ref b2), .val (.int mm), .val (.int kk), .val (.int nm), .val (.int qq), .val (.int x1), .val (.int x2), .val (.int y1), .val (.int y2), .val (.int z1), .val (.int z2), .val (.ref oa), .val (.ref ob), .val (.ref oc), .val (.ref oa), .val (.ref oa), .unset, .unset, .unset, .unset, .unset, .unset, .unset, .unset, .unset, .unset]) rfl ?_
    refine XS.aload X275.here hx rfl (hb hby at_311) rfl rfl ?_
    refine XS.aload X275.here hx rfl (hb hby at_313) rfl rfl ?_
    show Steps p.tables e below (T275.setTop (mkF m 315 #[.val (.int p1), .val (.long p2), .second, .val (.long p3), .second, .val (.long p4), .second, .val (.int sl), .val (.ref b1), .val (.ref b2), .val (.int mm), .val (.int kk), .val (.int nm), .val (.int qq), .val (.int x1), .val (.int x2), .val (.int y1), .val (.int y2), .val (.int z1), .val (.int z2), .val (.ref oa), .val (.ref ob), .val (.ref oc), .val (.ref oa), .val (.ref oa), .unset, .unset, .unset, .unset, .unset, .unset, .unset, .unset, .unset, .unset] [(.ref oa), (.ref oa)])) _
    refine Jvm.RoadKit.acmp (g := (mkF m 315 #[.val (.int p1), .val (.long p2), .second, .val (.long p3), .second, .val (.long p4), .second, .val (.int sl), .val (.ref b1), .val (.ref b2), .val (.int mm), .val (.int kk), .val (.int nm), .val (.int qq), .val (.int x1), .val (.int x2), .val (.int y1), .val (.int y2), .val (.int z1), .val (.int z2), .val (.ref oa), .val (.ref ob), .val (.ref oc), .val (.ref oa), .val (.ref oa), .unset, .unset, .unset, .unset, .unset, .unset, .unset, .unset, .unset, .unset] [(.ref oa), (.ref oa)])) X275 hx rfl rfl rfl (pc0 := 315) (pc' := 320) (same := true) rfl (hb hby at_315) rfl (decide_eq_true rfl) (by decide) (by decide) ?_
    exact Steps.refl _
  have htot : nm + qq = 2 := by rw [hn, hq]; decide
  have hid := id2 x1.toInt z1.toInt
  have hW : _ = 2 * SQ - SX * SX := hid.trans (by rw [hSQ, hSX, B0_, B1_, B2_, B3_, B4_, B5_]; simp only [Int.mul_zero, Int.zero_add, Int.add_zero, Int.add_assoc])
  exact ⟨T275, T275.heap, _, (((0 : Int64) + (1 : Int64)) + ((0 : Int64) + (1 : Int64))), sr1, X275, rfl, N275, O275, Z275, Ec275, Fc275, Fs275, Or.inr (Or.inl ⟨by decide, htot, ysr1.cast hW rfl⟩), r277⟩
set_option maxRecDepth 65536 in
set_option maxHeartbeats 40000000 in
theorem sgB4 {p : Program} {e : Env} {s : State} {m : MethodId} {below : List Frame} {meth : Method} {c : Code} (l : Launch) (Z : State) (a0 : Array Value) (hw : ∀ d ∈ tables_1, d.before a0 Z = true) (p1 : Int32) (p2 p3 p4 : Int64) (hx : p.tables.exec = Jvm.exec) (hby : c.code = code) (hml : c.maxLocals = 35) (hown : s.vm.findClass "org/rowfold/aggregate/MomentsCombinePinLaw" = some m.cls) (hZ : Z.Warmed39 s.vm) (b1 : Addr) (b2 : Addr) (sl : Int32) (mm : Int32) (kk : Int32) (nm : Int32) (qq : Int32) (x1 : Int32) (x2 : Int32) (y1 : Int32) (y2 : Int32) (z1 : Int32) (z2 : Int32) (oa : Addr) (ob : Addr) (oc : Addr) (B0 : Int) (B1 : Int) (B2 : Int) (B3 : Int) (B4 : Int) (B5 : Int) (SX : Int) (SQ : Int) (S0 T0 : State) (h0 : Heap) (L0 : List Loc) (n0 : Nat) (X0 : Stand p l e room_1 s m #[(.int p1), (.long p2), (.long p3), (.long p4)] below meth c T0 L0 5 23) (e0 : T0.heap = h0) (N0 : Fr n0 L0) (O0 : Old Z n0 h0) (Z0 : n0 ≤ h0.size) (bx1 : x1.toInt.natAbs ≤ 1048576) (bx2 : x2.toInt.natAbs ≤ 1048576) (by1 : y1.toInt.natAbs ≤ 1048576) (by2 : y2.toInt.natAbs ≤ 1048576) (bz1 : z1.toInt.natAbs ≤ 1048576) (bz2 : z2.toInt.natAbs ≤ 1048576) (g_oa : n0 ≤ oa) (g_ob : n0 ≤ ob) (g_oc : n0 ≤ oc) (ne_ab : oa ≠ ob) (ne_ac : oa ≠ oc) (ne_bc : ob ≠ oc) (E_oa : Exa Z h0 oa "org/rowfold/aggregate/Moments") (E_ob : Exa Z h0 ob "org/rowfold/aggregate/Moments") (E_oc : Exa Z h0 oc "org/rowfold/aggregate/Moments") (F_oa_count : Fld Z h0 oa "org/rowfold/aggregate/Moments" "count" "J" (.long (0 : Int64))) (F_oa_mean : Fld Z h0 oa "org/rowfold/aggregate/Moments" "mean" "D" (.double (0 : UInt64))) (F_oa_squares : Fld Z h0 oa "org/rowfold/aggregate/Moments" "squares" "D" (.double (0 : UInt64))) (F_ob_count : Fld Z h0 ob "org/rowfold/aggregate/Moments" "count" "J" (.long (0 : Int64))) (F_ob_mean : Fld Z h0 ob "org/rowfold/aggregate/Moments" "mean" "D" (.double (0 : UInt64))) (F_ob_squares : Fld Z h0 ob "org/rowfold/aggregate/Moments" "squares" "D" (.double (0 : UInt64))) (F_oc_count : Fld Z h0 oc "org/rowfold/aggregate/Moments" "count" "J" (.long (0 : Int64))) (F_oc_mean : Fld Z h0 oc "org/rowfold/aggregate/Moments" "mean" "D" (.double (0 : UInt64))) (F_oc_squares : Fld Z h0 oc "org/rowfold/aggregate/Moments" "squares" "D" (.double (0 : UInt64))) (hB0 : B0 = (if mm < (1 : Int32) then 0 else x1.toInt)) (hB1 : B1 = (if mm < (2 : Int32) then 0 else x2.toInt)) (hB2 : B2 = (if kk < (1 : Int32) then 0 else y1.toInt)) (hB3 : B3 = (if kk < (2 : Int32) then 0 else y2.toInt)) (hB4 : B4 = (if qq < (1 : Int32) then 0 else z1.toInt)) (hB5 : B5 = (if qq < (2 : Int32) then 0 else z2.toInt)) (hSX : SX = B0 + B1 + B2 + B3 + B4 + B5) (hSQ : SQ = B0 * B0 + B1 * B1 + B2 * B2 + B3 * B3 + B4 * B4 + B5 * B5) (hm : mm = 2) (hk : kk = 0) (hn : nm = 2) (hqq : ((nm = 1 ∧ qq = 1) ∨ (nm = 2 ∧ qq = 2) ∨ (¬ nm = 1 ∧ ¬ nm = 2 ∧ qq = 0))) (r0 : Steps p.tables e below S0 (T0.setTop (mkF m 203 #[.val (.int p1), .val (.long p2), .second, .val (.long p3), .second, .val (.long p4), .second, .val (.int sl), .val (.ref b1), .val (.ref b2), .val (.int mm), .val (.int kk), .val (.int nm), .val (.int qq), .val (.int x1), .val (.int x2), .val (.int y1), .val (.int y2), .val (.int z1), .val (.int z2), .val (.ref oa), .val (.ref ob), .val (.ref oc), .unset, .unset, .unset, .unset, .unset, .unset, .unset, .unset, .unset, .unset, .unset, .unset] [(.int (1 : Int32)), (.int mm)]))) :
    ∃ (T' : State) (h' : Heap) (L' : List Loc) (cn : Int64) (sq : UInt64), Stand p l e room_1 s m #[(.int p1), (.long p2), (.long p3), (.long p4)] below meth c T' L' 5 23 ∧ T'.heap = h' ∧ Fr n0 L' ∧ Old Z n0 h' ∧ n0 ≤ h'.size ∧ Exa Z h' oa "org/rowfold/aggregate/Moments" ∧ Fld Z h' oa "org/rowfold/aggregate/Moments" "count" "J" (.long cn) ∧ Fld Z h' oa "org/rowfold/aggregate/Moments" "squares" "D" (.double sq) ∧ ((cn.toInt = 0 ∧ nm + qq = 0) ∨ (cn.toInt = 2 ∧ nm + qq = 2 ∧ Dy (2 * SQ - SX * SX) 1 sq) ∨ (cn.toInt = 4 ∧ nm + qq = 4 ∧ Dy (4 * SQ - SX * SX) 2 sq)) ∧ Steps p.tables e below S0 (T'.setTop (mkF m 320 #[.val (.int p1), .val (.long p2), .second, .val (.long p3), .second, .val (.long p4), .second, .val (.int sl), .val (.ref b1), .val (.ref b2), .val (.int mm), .val (.int kk), .val (.int nm), .val (.int qq), .val (.int x1), .val (.int x2), .val (.int y1), .val (.int y2), .val (.int z1), .val (.int z2), .val (.ref oa), .val (.ref ob), .val (.ref oc), .val (.ref oa), .val (.ref oa), .unset, .unset, .unset, .unset, .unset, .unset, .unset, .unset, .unset, .unset] [])) := by
  have hq : qq = 2 := by
    rcases hqq with ⟨z1_, z2_⟩ | ⟨z1_, z2_⟩ | ⟨z1_, z2_, z3_⟩
    · first | exact z2_ | exact absurd (hn.symm.trans z1_) (by decide)
    · first | exact z2_ | exact absurd (hn.symm.trans z1_) (by decide)
    · first | exact z3_ | exact absurd hn z1_ | exact absurd hn z2_
  have B0_ : B0 = x1.toInt := by rw [hB0, hm]; exact if_neg (by decide)
  have B1_ : B1 = x2.toInt := by rw [hB1, hm]; exact if_neg (by decide)
  have B2_ : B2 = 0 := by rw [hB2, hk]; exact if_pos (by decide)
  have B3_ : B3 = 0 := by rw [hB3, hk]; exact if_pos (by decide)
  have B4_ : B4 = z1.toInt := by rw [hB4, hq]; exact if_neg (by decide)
  have B5_ : B5 = z2.toInt := by rw [hB5, hq]; exact if_neg (by decide)
  have hm1_ : ¬ mm < (1 : Int32) := by rw [hm]; decide
  have hca1 : ((0 : Int64) + (1 : Int64)).toInt = 1 := by decide
  obtain ⟨ma1, sa1, hAa1, yma1, ysa1⟩ := st1 (Dy.i2d x1) (nb1 bx1) hca1
  have r278 : Steps p.tables e below S0 (T0.setTop (mkF m 211 #[.val (.int p1), .val (.long p2), .second, .val (.long p3), .second, .val (.long p4), .second, .val (.int sl), .val (.ref b1), .val (.ref b2), .val (.int mm), .val (.int kk), .val (.int nm), .val (.int qq), .val (.int x1), .val (.int x2), .val (.int y1), .val (.int y2), .val (.int z1), .val (.int z2), .val (.ref oa), .val (.ref ob), .val (.ref oc), .unset, .unset, .unset, .unset, .unset, .unset, .unset, .unset, .unset, .unset, .unset, .unset] [(.double (FP.i2d x1)), (.ref oa)])) := by
    refine r0.trans ?_
    show Steps p.tables e below (T0.setTop (mkF m 203 #[.val (.int p1), .val (.long p2), .second, .val (.long p3), .second, .val (.long p4), .second, .val (.int sl), .val (.ref b1), .val (.ref b2), .val (.int mm), .val (.int kk), .val (.int nm), .val (.int qq), .val (.int x1), .val (.int x2), .val (.int y1), .val (.int y2), .val (.int z1), .val (.int z2), .val (.ref oa), .val (.ref ob), .val (.ref oc), .unset, .unset, .unset, .unset, .unset, .unset, .unset, .unset, .unset, .unset, .unset, .unset] [(.int (1 : Int32)), (.int mm)])) _
    refine XS.icmpNo X0.here hx rfl (hb hby at_203) rfl (flt hm1_).1 ?_
    refine XS.aload X0.here hx rfl (hb hby at_206) rfl rfl ?_
    refine XS.iload X0.here hx rfl (hb hby at_208) rfl ?_
    show Steps p.tables e below (T0.setTop (mkF m 210 #[.val (.int p1), .val (.long p2), .second, .val (.long p3), .second, .val (.long p4), .second, .val (.int sl), .val (.ref b1), .val (.ref b2), .val (.int mm), .val (.int kk), .val (.int nm), .val (.int qq), .val (.int x1), .val (.int x2), .val (.int y1), .val (.int y2), .val (.int z1), .val (.int z2), .val (.ref oa), .val (.ref ob), .val (.ref oc), .unset, .unset, .unset, .unset, .unset, .unset, .unset, .unset, .unset, .unset, .unset, .unset] [(.int x1), (.ref oa)])) _
    refine XS.i2dS X0.here hx rfl (hb hby at_210) rfl rfl ?_
    exact Steps.refl _
  obtain ⟨cq279, kq279, q279a, q279b, q279c⟩ := isOf hZ e0 E_oa
  obtain ⟨_, _, ⟨T279, L279, k279, n279⟩, -, X279, ⟨Lc279, hQ279, l279, y279, z279⟩, st279⟩ := X0.virtualBack hx (y := (⟨"org/rowfold/aggregate/Moments", "add", "(D)V"⟩ : MethodName)) (z := (⟨"org/rowfold/aggregate/Moments", "add", "(D)V"⟩ : MethodName)) hown (mvT hZ (hw _ (List.mem_of_getElem? (i := 45) rfl))) (mvT hZ (hw _ (List.mem_of_getElem? (i := 46) rfl))) (notFace_of_selects (args := #[]) (mvT hZ (hw _ (List.mem_of_getElem? (i := 48) rfl)))) (mvT hZ (hw _ (List.mem_of_getElem? (i := 48) rfl))) (mvT hZ (hw _ (List.mem_of_getElem? (i := 47) rfl))) (by decide) (backOf (W := 0) (rmA l Z a0 hw [] oa (FP.i2d x1) (0 : Int64) (0 : UInt64) (0 : UInt64) ma1 sa1 h0 n0 Z0 F_oa_count F_oa_mean F_oa_squares E_oa g_oa hAa1) hZ (hw _ (List.mem_of_getElem? (i := 49) rfl)) (hw _ (List.mem_of_getElem? (i := 8) rfl)) (by decide) (by decide)) q279a q279c (g := (mkF m 211 #[.val (.int p1), .val (.long p2), .second, .val (.long p3), .second, .val (.long p4), .second, .val (.int sl), .val (.ref b1), .val (.ref b2), .val (.int mm), .val (.int kk), .val (.int nm), .val (.int qq), .val (.int x1), .val (.int x2), .val (.int y1), .val (.int y2), .val (.int z1), .val (.int z2), .val (.ref oa), .val (.ref ob), .val (.ref oc), .unset, .unset, .unset, .unset, .unset, .unset, .unset, .unset, .unset, .unset, .unset, .unset] [(.double (FP.i2d x1)), (.ref oa)])) rfl (by rw [hml]; rfl) (Steps.refl _) (argsL := [(.double (FP.i2d x1))]) (rest := []) (lenOf pd_0 rfl) rfl (by show 2 * 0 + _ ≤ _; exact Nat.le_of_eq rfl) (hb hby at_211) (fun _ _ => ⟨rfl, e0, (by decide : 5 + 0 ≤ _), (by decide : 23 + 0 ≤ _)⟩)
  dsimp only [Pt.U, Pt.locs, Pt.cells, Pt.slots] at X279 l279 y279 z279 st279 hQ279
  subst l279 y279 z279
  obtain ⟨rfl, Nq279, Kc279, Ec279, Fc279, Fm279, Fs279⟩ := hQ279
  have N279 := Fr.app N0 Nq279
  have r280 : Steps p.tables e below S0 (T279.setTop (mkF m 214 #[.val (.int p1), .val (.long p2), .second, .val (.long p3), .second, .val (.long p4), .second, .val (.int sl), .val (.ref b1), .val (.ref b2), .val (.int mm), .val (.int kk), .val (.int nm), .val (.int qq), .val (.int x1), .val (.int x2), .val (.int y1), .val (.int y2), .val (.int z1), .val (.int z2), .val (.ref oa), .val (.ref ob), .val (.ref oc), .unset, .unset, .unset, .unset, .unset, .unset, .unset, .unset, .unset, .unset, .unset, .unset] [])) := r278.trans st279
  have F279_ob_count := F_ob_count.keep Kc279 (ninS (Ne.symm ne_ab) nin0)
  have F279_ob_mean := F_ob_mean.keep Kc279 (ninS (Ne.symm ne_ab) nin0)
  have F279_ob_squares := F_ob_squares.keep Kc279 (ninS (Ne.symm ne_ab) nin0)
  have F279_oc_count := F_oc_count.keep Kc279 (ninS (Ne.symm ne_ac) nin0)
  have F279_oc_mean := F_oc_mean.keep Kc279 (ninS (Ne.symm ne_ac) nin0)
  have F279_oc_squares := F_oc_squares.keep Kc279 (ninS (Ne.symm ne_ac) nin0)
  have E279_oa := E_oa.keep Kc279
  have E279_ob := E_ob.keep Kc279
  have E279_oc := E_oc.keep Kc279
  have Z279 : n0 ≤ T279.heap.size := Nat.le_trans Z0 Kc279.1
  have O279 := O0.keep Kc279 (allS g_oa (all0))
  have hm2_ : ¬ mm < (2 : Int32) := by rw [hm]; decide
  have hca2 : (((0 : Int64) + (1 : Int64)) + (1 : Int64)).toInt = 2 := by decide
  obtain ⟨ma2, sa2, hAa2, yma2, ysa2⟩ := st2 (Dy.i2d x2) yma1 ysa1 (nb1 bx1) (nb1 bx2) hca2
  have r281 : Steps p.tables e below S0 (T279.setTop (mkF m 225 #[.val (.int p1), .val (.long p2), .second, .val (.long p3), .second, .val (.long p4), .second, .val (.int sl), .val (.ref b1), .val (.ref b2), .val (.int mm), .val (.int kk), .val (.int nm), .val (.int qq), .val (.int x1), .val (.int x2), .val (.int y1), .val (.int y2), .val (.int z1), .val (.int z2), .val (.ref oa), .val (.ref ob), .val (.ref oc), .unset, .unset, .unset, .unset, .unset, .unset, .unset, .unset, .unset, .unset, .unset, .unset] [(.double (FP.i2d x2)), (.ref oa)])) := by
    refine r280.trans ?_
    show Steps p.tables e below (T279.setTop (mkF m 214 #[.val (.int p1), .val (.long p2), .second, .val (.long p3), .second, .val (.long p4), .second, .val (.int sl), .val (.ref b1), .val (.ref b2), .val (.int mm), .val (.int kk), .val (.int nm), .val (.int qq), .val (.int x1), .val (.int x2), .val (.int y1), .val (.int y2), .val (.int z1), .val (.int z2), .val (.ref oa), .val (.ref ob), .val (.ref oc), .unset, .unset, .unset, .unset, .unset, .unset, .unset, .unset, .unset, .unset, .unset, .unset] [])) _
    refine XS.iload X279.here hx rfl (hb hby at_214) rfl ?_
    refine XS.iconst X279.here hx rfl (hb hby at_216) ?_
    refine XS.icmpNo X279.here hx rfl (hb hby at_217) rfl (flt hm2_).1 ?_
    show Steps p.tables e below (T279.setTop (mkF m 220 #[.val (.int p1), .val (.long p2), .second, .val (.long p3), .second, .val (.long p4), .second, .val (.int sl), .val (.ref b1), .val (.ref b2), .val (.int mm), .val (.int kk), .val (.int nm), .val (.int qq), .val (.int x1), .val (.int x2), .val (.int y1), .val (.int y2), .val (.int z1), .val (.int z2), .val (.ref oa), .val (.ref ob), .val (.ref oc), .unset, .unset, .unset, .unset, .unset, .unset, .unset, .unset, .unset, .unset, .unset, .unset] [])) _
    refine XS.aload X279.here hx rfl (hb hby at_220) rfl rfl ?_
    refine XS.iload X279.here hx rfl (hb hby at_222) rfl ?_
    refine XS.i2dS X279.here hx rfl (hb hby at_224) rfl rfl ?_
    exact Steps.refl _
  obtain ⟨cq282, kq282, q282a, q282b, q282c⟩ := isOf hZ rfl Ec279
  obtain ⟨_, _, ⟨T282, L282, k282, n282⟩, -, X282, ⟨Lc282, hQ282, l282, y282, z282⟩, st282⟩ := X279.virtualBack hx (y := (⟨"org/rowfold/aggregate/Moments", "add", "(D)V"⟩ : MethodName)) (z := (⟨"org/rowfold/aggregate/Moments", "add", "(D)V"⟩ : MethodName)) hown (mvT hZ (hw _ (List.mem_of_getElem? (i := 45) rfl))) (mvT hZ (hw _ (List.mem_of_getElem? (i := 46) rfl))) (notFace_of_selects (args := #[]) (mvT hZ (hw _ (List.mem_of_getElem? (i := 48) rfl)))) (mvT hZ (hw _ (List.mem_of_getElem? (i := 48) rfl))) (mvT hZ (hw _ (List.mem_of_getElem? (i := 47) rfl))) (by decide) (backOf (W := 0) (rmA l Z a0 hw [] oa (FP.i2d x2) ((0 : Int64) + (1 : Int64)) ma1 sa1 ma2 sa2 T279.heap n0 Z279 Fc279 Fm279 Fs279 Ec279 g_oa hAa2) hZ (hw _ (List.mem_of_getElem? (i := 49) rfl)) (hw _ (List.mem_of_getElem? (i := 8) rfl)) (by decide) (by decide)) q282a q282c (g := (mkF m 225 #[.val (.int p1), .val (.long p2), .second, .val (.long p3), .second, .val (.long p4), .second, .val (.int sl), .val (.ref b1), .val (.ref b2), .val (.int mm), .val (.int kk), .val (.int nm), .val (.int qq), .val (.int x1), .val (.int x2), .val (.int y1), .val (.int y2), .val (.int z1), .val (.int z2), .val (.ref oa), .val (.ref ob), .val (.ref oc), .unset, .unset, .unset, .unset, .unset, .unset, .unset, .unset, .unset, .unset, .unset, .unset] [(.double (FP.i2d x2)), (.ref oa)])) rfl (by rw [hml]; rfl) (Steps.refl _) (argsL := [(.double (FP.i2d x2))]) (rest := []) (lenOf pd_0 rfl) rfl (by show 2 * 0 + _ ≤ _; exact Nat.le_of_eq rfl) (hb hby at_225) (fun _ _ => ⟨rfl, rfl, (by decide : (5 + 0) + 0 ≤ _), (by decide : (23 + 0) + 0 ≤ _)⟩)
  dsimp only [Pt.U, Pt.locs, Pt.cells, Pt.slots] at X282 l282 y282 z282 st282 hQ282
  subst l282 y282 z282
  obtain ⟨rfl, Nq282, Kc282, Ec282, Fc282, Fm282, Fs282⟩ := hQ282
  have N282 := Fr.app N279 Nq282
  have r283 : Steps p.tables e below S0 (T282.setTop (mkF m 228 #[.val (.int p1), .val (.long p2), .second, .val (.long p3), .second, .val (.long p4), .second, .val (.int sl), .val (.ref b1), .val (.ref b2), .val (.int mm), .val (.int kk), .val (.int nm), .val (.int qq), .val (.int x1), .val (.int x2), .val (.int y1), .val (.int y2), .val (.int z1), .val (.int z2), .val (.ref oa), .val (.ref ob), .val (.ref oc), .unset, .unset, .unset, .unset, .unset, .unset, .unset, .unset, .unset, .unset, .unset, .unset] [])) := r281.trans st282
  have F282_ob_count := F279_ob_count.keep Kc282 (ninS (Ne.symm ne_ab) nin0)
  have F282_ob_mean := F279_ob_mean.keep Kc282 (ninS (Ne.symm ne_ab) nin0)
  have F282_ob_squares := F279_ob_squares.keep Kc282 (ninS (Ne.symm ne_ab) nin0)
  have F282_oc_count := F279_oc_count.keep Kc282 (ninS (Ne.symm ne_ac) nin0)
  have F282_oc_mean := F279_oc_mean.keep Kc282 (ninS (Ne.symm ne_ac) nin0)
  have F282_oc_squares := F279_oc_squares.keep Kc282 (ninS (Ne.symm ne_ac) nin0)
  have E282_oa := Ec279.keep Kc282
  have E282_ob := E279_ob.keep Kc282
  have E282_oc := E279_oc.keep Kc282
  have Z282 : n0 ≤ T282.heap.size := Nat.le_trans Z279 Kc282.1
  have O282 := O279.keep Kc282 (allS g_oa (all0))
  have hk1_ : kk < (1 : Int32) := by rw [hk]; decide
  have hk2_ : kk < (2 : Int32) := by rw [hk]; decide
  have hq1_ : ¬ qq < (1 : Int32) := by rw [hq]; decide
  have hcc1 : ((0 : Int64) + (1 : Int64)).toInt = 1 := by decide
  obtain ⟨mc1, sc1, hAc1, ymc1, ysc1⟩ := st1 (Dy.i2d z1) (nb1 bz1) hcc1
  have r284 : Steps p.tables e below S0 (T282.setTop (mkF m 267 #[.val (.int p1), .val (.long p2), .second, .val (.long p3), .second, .val (.long p4), .second, .val (.int sl), .val (.ref b1), .val (.ref b2), .val (.int mm), .val (.int kk), .val (.int nm), .val (.int qq), .val (.int x1), .val (.int x2), .val (.int y1), .val (.int y2), .val (.int z1), .val (.int z2), .val (.ref oa), .val (.ref ob), .val (.ref oc), .unset, .unset, .unset, .unset, .unset, .unset, .unset, .unset, .unset, .unset, .unset, .unset] [(.double (FP.i2d z1)), (.ref oc)])) := by
    refine r283.trans ?_
    show Steps p.tables e below (T282.setTop (mkF m 228 #[.val (.int p1), .val (.long p2), .second, .val (.long p3), .second, .val (.long p4), .second, .val (.int sl), .val (.ref b1), .val (.ref b2), .val (.int mm), .val (.int kk), .val (.int nm), .val (.int qq), .val (.int x1), .val (.int x2), .val (.int y1), .val (.int y2), .val (.int z1), .val (.int z2), .val (.ref oa), .val (.ref ob), .val (.ref oc), .unset, .unset, .unset, .unset, .unset, .unset, .unset, .unset, .unset, .unset, .unset, .unset] [])) _
    refine XS.iload X282.here hx rfl (hb hby at_228) rfl ?_
    refine XS.iconst X282.here hx rfl (hb hby at_230) ?_
    refine XS.icmpYes X282.here hx rfl (pc0 := 231) (pc' := 242) rfl (hb hby at_231) rfl (tlt hk1_).1 (by decide) (by decide) ?_
    show Steps p.tables e below (T282.setTop (mkF m 242 #[.val (.int p1), .val (.long p2), .second, .val (.long p3), .second, .val (.long p4), .second, .val (.int sl), .val (.ref b1), .val (.ref b2), .val (.int mm), .val (.int kk), .val (.int nm), .val (.int qq), .val (.int x1), .val (.int x2), .val (.int y1), .val (.int y2), .val (.int z1), .val (.int z2), .val (.ref oa), .val (.ref ob), .val (.ref oc), .unset, .unset, .unset, .unset, .unset, .unset, .unset, .unset, .unset, .unset, .unset, .unset] [])) _
    refine XS.iload X282.here hx rfl (hb hby at_242) rfl ?_
    refine XS.iconst X282.here hx rfl (hb hby at_244) ?_
    refine XS.icmpYes X282.here hx rfl (pc0 := 245) (pc' := 256) rfl (hb hby at_245) rfl (tlt hk2_).1 (by decide) (by decide) ?_
    show Steps p.tables e below (T282.setTop (mkF m 256 #[.val (.int p1), .val (.long p2), .second, .val (.long p3), .second, .val (.long p4), .second, .val (.int sl), .val (.ref b1), .val (.ref b2), .val (.int mm), .val (.int kk), .val (.int nm), .val (.int qq), .val (.int x1), .val (.int x2), .val (.int y1), .val (.int y2), .val (.int z1), .val (.int z2), .val (.ref oa), .val (.ref ob), .val (.ref oc), .unset, .unset, .unset, .unset, .unset, .unset, .unset, .unset, .unset, .unset, .unset, .unset] [])) _
    refine XS.iload X282.here hx rfl (hb hby at_256) rfl ?_
    refine XS.iconst X282.here hx rfl (hb hby at_258) ?_
    refine XS.icmpNo X282.here hx rfl (hb hby at_259) rfl (flt hq1_).1 ?_
    show Steps p.tables e below (T282.setTop (mkF m 262 #[.val (.int p1), .val (.long p2), .second, .val (.long p3), .second, .val (.long p4), .second, .val (.int sl), .val (.ref b1), .val (.ref b2), .val (.int mm), .val (.int kk), .val (.int nm), .val (.int qq), .val (.int x1), .val (.int x2), .val (.int y1), .val (.int y2), .val (.int z1), .val (.int z2), .val (.ref oa), .val (.ref ob), .val (.ref oc), .unset, .unset, .unset, .unset, .unset, .unset, .unset, .unset, .unset, .unset, .unset, .unset] [])) _
    refine XS.aload X282.here hx rfl (hb hby at_262) rfl rfl ?_
    refine XS.iload X282.here hx rfl (hb hby at_264) rfl ?_
    refine XS.i2dS X282.here hx rfl (hb hby at_266) rfl rfl ?_
    exact Steps.refl _
  obtain ⟨cq285, kq285, q285a, q285b, q285c⟩ := isOf hZ rfl E282_oc
  obtain ⟨_, _, ⟨T285, L285, k285, n285⟩, -, X285, ⟨Lc285, hQ285, l285, y285, z285⟩, st285⟩ := X282.virtualBack hx (y := (⟨"org/rowfold/aggregate/Moments", "add", "(D)V"⟩ : MethodName)) (z := (⟨"org/rowfold/aggregate/Moments", "add", "(D)V"⟩ : MethodName)) hown (mvT hZ (hw _ (List.mem_of_getElem? (i := 45) rfl))) (mvT hZ (hw _ (List.mem_of_getElem? (i := 46) rfl))) (notFace_of_selects (args := #[]) (mvT hZ (hw _ (List.mem_of_getElem? (i := 48) rfl)))) (mvT hZ (hw _ (List.mem_of_getElem? (i := 48) rfl))) (mvT hZ (hw _ (List.mem_of_getElem? (i := 47) rfl))) (by decide) (backOf (W := 0) (rmA l Z a0 hw [] oc (FP.i2d z1) (0 : Int64) (0 : UInt64) (0 : UInt64) mc1 sc1 T282.heap n0 Z282 F282_oc_count F282_oc_mean F282_oc_squares E282_oc g_oc hAc1) hZ (hw _ (List.mem_of_getElem? (i := 49) rfl)) (hw _ (List.mem_of_getElem? (i := 8) rfl)) (by decide) (by decide)) q285a q285c (g := (mkF m 267 #[.val (.int p1), .val (.long p2), .second, .val (.long p3), .second, .val (.long p4), .second, .val (.int sl), .val (.ref b1), .val (.ref b2), .val (.int mm), .val (.int kk), .val (.int nm), .val (.int qq), .val (.int x1), .val (.int x2), .val (.int y1), .val (.int y2), .val (.int z1), .val (.int z2), .val (.ref oa), .val (.ref ob), .val (.ref oc), .unset, .unset, .unset, .unset, .unset, .unset, .unset, .unset, .unset, .unset, .unset, .unset] [(.double (FP.i2d z1)), (.ref oc)])) rfl (by rw [hml]; rfl) (Steps.refl _) (argsL := [(.double (FP.i2d z1))]) (rest := []) (lenOf pd_0 rfl) rfl (by show 2 * 0 + _ ≤ _; exact Nat.le_of_eq rfl) (hb hby at_267) (fun _ _ => ⟨rfl, rfl, (by decide : ((5 + 0) + 0) + 0 ≤ _), (by decide : ((23 + 0) + 0) + 0 ≤ _)⟩)
  dsimp only [Pt.U, Pt.locs, Pt.cells, Pt.slots] at X285 l285 y285 z285 st285 hQ285
  subst l285 y285 z285
  obtain ⟨rfl, Nq285, Kc285, Ec285, Fc285, Fm285, Fs285⟩ := hQ285
  have N285 := Fr.app N282 Nq285
  have r286 : Steps p.tables e below S0 (T285.setTop (mkF m 270 #[.val (.int p1), .val (.long p2), .second, .val (.long p3), .second, .val (.long p4), .second, .val (.int sl), .val (.ref b1), .val (.ref b2), .val (.int mm), .val (.int kk), .val (.int nm), .val (.int qq), .val (.int x1), .val (.int x2), .val (.int y1), .val (.int y2), .val (.int z1), .val (.int z2), .val (.ref oa), .val (.ref ob), .val (.ref oc), .unset, .unset, .unset, .unset, .unset, .unset, .unset, .unset, .unset, .unset, .unset, .unset] [])) := r284.trans st285
  have F285_ob_count := F282_ob_count.keep Kc285 (ninS ne_bc nin0)
  have F285_ob_mean := F282_ob_mean.keep Kc285 (ninS ne_bc nin0)
  have F285_ob_squares := F282_ob_squares.keep Kc285 (ninS ne_bc nin0)
  have F285_oa_count := Fc282.keep Kc285 (ninS ne_ac nin0)
  have F285_oa_mean := Fm282.keep Kc285 (ninS ne_ac nin0)
  have F285_oa_squares := Fs282.keep Kc285 (ninS ne_ac nin0)
  have E285_oa := Ec282.keep Kc285
  have E285_ob := E282_ob.keep Kc285
  have E285_oc := E282_oc.keep Kc285
  have Z285 : n0 ≤ T285.heap.size := Nat.le_trans Z282 Kc285.1
  have O285 := O282.keep Kc285 (allS g_oc (all0))
  have hq2_ : ¬ qq < (2 : Int32) := by rw [hq]; decide
  have hcc2 : (((0 : Int64) + (1 : Int64)) + (1 : Int64)).toInt = 2 := by decide
  obtain ⟨mc2, sc2, hAc2, ymc2, ysc2⟩ := st2 (Dy.i2d z2) ymc1 ysc1 (nb1 bz1) (nb1 bz2) hcc2
  have r287 : Steps p.tables e below S0 (T285.setTop (mkF m 281 #[.val (.int p1), .val (.long p2), .second, .val (.long p3), .second, .val (.long p4), .second, .val (.int sl), .val (.ref b1), .val (.ref b2), .val (.int mm), .val (.int kk), .val (.int nm), .val (.int qq), .val (.int x1), .val (.int x2), .val (.int y1), .val (.int y2), .val (.int z1), .val (.int z2), .val (.ref oa), .val (.ref ob), .val (.ref oc), .unset, .unset, .unset, .unset, .unset, .unset, .unset, .unset, .unset, .unset, .unset, .unset] [(.double (FP.i2d z2)), (.ref oc)])) := by
    refine r286.trans ?_
    show Steps p.tables e below (T285.setTop (mkF m 270 #[.val (.int p1), .val (.long p2), .second, .val (.long p3), .second, .val (.long p4), .second, .val (.int sl), .val (.ref b1), .val (.ref b2), .val (.int mm), .val (.int kk), .val (.int nm), .val (.int qq), .val (.int x1), .val (.int x2), .val (.int y1), .val (.int y2), .val (.int z1), .val (.int z2), .val (.ref oa), .val (.ref ob), .val (.ref oc), .unset, .unset, .unset, .unset, .unset, .unset, .unset, .unset, .unset, .unset, .unset, .unset] [])) _
    refine XS.iload X285.here hx rfl (hb hby at_270) rfl ?_
    refine XS.iconst X285.here hx rfl (hb hby at_272) ?_
    refine XS.icmpNo X285.here hx rfl (hb hby at_273) rfl (flt hq2_).1 ?_
    show Steps p.tables e below (T285.setTop (mkF m 276 #[.val (.int p1), .val (.long p2), .second, .val (.long p3), .second, .val (.long p4), .second, .val (.int sl), .val (.ref b1), .val (.ref b2), .val (.int mm), .val (.int kk), .val (.int nm), .val (.int qq), .val (.int x1), .val (.int x2), .val (.int y1), .val (.int y2), .val (.int z1), .val (.int z2), .val (.ref oa), .val (.ref ob), .val (.ref oc), .unset, .unset, .unset, .unset, .unset, .unset, .unset, .unset, .unset, .unset, .unset, .unset] [])) _
    refine XS.aload X285.here hx rfl (hb hby at_276) rfl rfl ?_
    refine XS.iload X285.here hx rfl (hb hby at_278) rfl ?_
    refine XS.i2dS X285.here hx rfl (hb hby at_280) rfl rfl ?_
    exact Steps.refl _
  obtain ⟨cq288, kq288, q288a, q288b, q288c⟩ := isOf hZ rfl Ec285
  obtain ⟨_, _, ⟨T288, L288, k288, n288⟩, -, X288, ⟨Lc288, hQ288, l288, y288, z288⟩, st288⟩ := X285.virtualBack hx (y := (⟨"org/rowfold/aggregate/Moments", "add", "(D)V"⟩ : MethodName)) (z := (⟨"org/rowfold/aggregate/Moments", "add", "(D)V"⟩ : MethodName)) hown (mvT hZ (hw _ (List.mem_of_getElem? (i := 45) rfl))) (mvT hZ (hw _ (List.mem_of_getElem? (i := 46) rfl))) (notFace_of_selects (args := #[]) (mvT hZ (hw _ (List.mem_of_getElem? (i := 48) rfl)))) (mvT hZ (hw _ (List.mem_of_getElem? (i := 48) rfl))) (mvT hZ (hw _ (List.mem_of_getElem? (i := 47) rfl))) (by decide) (backOf (W := 0) (rmA l Z a0 hw [] oc (FP.i2d z2) ((0 : Int64) + (1 : Int64)) mc1 sc1 mc2 sc2 T285.heap n0 Z285 Fc285 Fm285 Fs285 Ec285 g_oc hAc2) hZ (hw _ (List.mem_of_getElem? (i := 49) rfl)) (hw _ (List.mem_of_getElem? (i := 8) rfl)) (by decide) (by decide)) q288a q288c (g := (mkF m 281 #[.val (.int p1), .val (.long p2), .second, .val (.long p3), .second, .val (.long p4), .second, .val (.int sl), .val (.ref b1), .val (.ref b2), .val (.int mm), .val (.int kk), .val (.int nm), .val (.int qq), .val (.int x1), .val (.int x2), .val (.int y1), .val (.int y2), .val (.int z1), .val (.int z2), .val (.ref oa), .val (.ref ob), .val (.ref oc), .unset, .unset, .unset, .unset, .unset, .unset, .unset, .unset, .unset, .unset, .unset, .unset] [(.double (FP.i2d z2)), (.ref oc)])) rfl (by rw [hml]; rfl) (Steps.refl _) (argsL := [(.double (FP.i2d z2))]) (rest := []) (lenOf pd_0 rfl) rfl (by show 2 * 0 + _ ≤ _; exact Nat.le_of_eq rfl) (hb hby at_281) (fun _ _ => ⟨rfl, rfl, (by decide : (((5 + 0) + 0) + 0) + 0 ≤ _), (by decide : (((23 + 0) + 0) + 0) + 0 ≤ _)⟩)
  dsimp only [Pt.U, Pt.locs, Pt.cells, Pt.slots] at X288 l288 y288 z288 st288 hQ288
  subst l288 y288 z288
  obtain ⟨rfl, Nq288, Kc288, Ec288, Fc288, Fm288, Fs288⟩ := hQ288
  have N288 := Fr.app N285 Nq288
  have r289 : Steps p.tables e below S0 (T288.setTop (mkF m 284 #[.val (.int p1), .val (.long p2), .second, .val (.long p3), .second, .val (.long p4), .second, .val (.int sl), .val (.ref b1), .val (.ref b2), .val (.int mm), .val (.int kk), .val (.int nm), .val (.int qq), .val (.int x1), .val (.int x2), .val (.int y1), .val (.int y2), .val (.int z1), .val (.int z2), .val (.ref oa), .val (.ref ob), .val (.ref oc), .unset, .unset, .unset, .unset, .unset, .unset, .unset, .unset, .unset, .unset, .unset, .unset] [])) := r287.trans st288
  have F288_ob_count := F285_ob_count.keep Kc288 (ninS ne_bc nin0)
  have F288_ob_mean := F285_ob_mean.keep Kc288 (ninS ne_bc nin0)
  have F288_ob_squares := F285_ob_squares.keep Kc288 (ninS ne_bc nin0)
  have F288_oa_count := F285_oa_count.keep Kc288 (ninS ne_ac nin0)
  have F288_oa_mean := F285_oa_mean.keep Kc288 (ninS ne_ac nin0)
  have F288_oa_squares := F285_oa_squares.keep Kc288 (ninS ne_ac nin0)
  have E288_oa := E285_oa.keep Kc288
  have E288_ob := E285_ob.keep Kc288
  have E288_oc := Ec285.keep Kc288
  have Z288 : n0 ≤ T288.heap.size := Nat.le_trans Z285 Kc288.1
  have O288 := O285.keep Kc288 (allS g_oc (all0))
  have r290 : Steps p.tables e below S0 (T288.setTop (mkF m 288 #[.val (.int p1), .val (.long p2), .second, .val (.long p3), .second, .val (.long p4), .second, .val (.int sl), .val (.ref b1), .val (.ref b2), .val (.int mm), .val (.int kk), .val (.int nm), .val (.int qq), .val (.int x1), .val (.int x2), .val (.int y1), .val (.int y2), .val (.int z1), .val (.int z2), .val (.ref oa), .val (.ref ob), .val (.ref oc), .unset, .unset, .unset, .unset, .unset, .unset, .unset, .unset, .unset, .unset, .unset, .unset] [(.ref ob), (.ref oa)])) := by
    refine r289.trans ?_
    show Steps p.tables e below (T288.setTop (mkF m 284 #[.val (.int p1), .val (.long p2), .second, .val (.long p3), .second, .val (.long p4), .second, .val (.int sl), .val (.ref b1), .val (.ref b2), .val (.int mm), .val (.int kk), .val (.int nm), .val (.int qq), .val (.int x1), .val (.int x2), .val (.int y1), .val (.int y2), .val (.int z1), .val (.int z2), .val (.ref oa), .val (.ref ob), .val (.ref oc), .unset, .unset, .unset, .unset, .unset, .unset, .unset, .unset, .unset, .unset, .unset, .unset] [])) _
    refine XS.aload X288.here hx rfl (hb hby at_284) rfl rfl ?_
    refine XS.aload X288.here hx rfl (hb hby at_286) rfl rfl ?_
    exact Steps.refl _
  obtain ⟨cq291, kq291, q291a, q291b, q291c⟩ := isOf hZ rfl E288_oa
  obtain ⟨_, _, ⟨T291, L291, k291, n291⟩, -, X291, ⟨Lc291, hQ291, l291, y291, z291⟩, st291⟩ := X288.virtualBack hx (y := (⟨"org/rowfold/aggregate/Moments", "combine", "(Lorg/rowfold/aggregate/Moments;)Lorg/rowfold/aggregate/Moments;"⟩ : MethodName)) (z := (⟨"org/rowfold/aggregate/Moments", "combine", "(Lorg/rowfold/aggregate/Moments;)Lorg/rowfold/aggregate/Moments;"⟩ : MethodName)) hown (mvT hZ (hw _ (List.mem_of_getElem? (i := 15) rfl))) (mvT hZ (hw _ (List.mem_of_getElem? (i := 16) rfl))) (notFace_of_selects (args := #[]) (mvT hZ (hw _ (List.mem_of_getElem? (i := 18) rfl)))) (mvT hZ (hw _ (List.mem_of_getElem? (i := 18) rfl))) (mvT hZ (hw _ (List.mem_of_getElem? (i := 17) rfl))) (by decide) (backOf (W := 0) (rmC0 l Z a0 hw [] oa ob (0 : Int64) T288.heap n0 Z288 F288_ob_count (by decide)) hZ (hw _ (List.mem_of_getElem? (i := 19) rfl)) (hw _ (List.mem_of_getElem? (i := 8) rfl)) (by decide) (by decide)) q291a q291c (g := (mkF m 288 #[.val (.int p1), .val (.long p2), .second, .val (.long p3), .second, .val (.long p4), .second, .val (.int sl), .val (.ref b1), .val (.ref b2), .val (.int mm), .val (.int kk), .val (.int nm), .val (.int qq), .val (.int x1), .val (.int x2), .val (.int y1), .val (.int y2), .val (.int z1), .val (.int z2), .val (.ref oa), .val (.ref ob), .val (.ref oc), .unset, .unset, .unset, .unset, .unset, .unset, .unset, .unset, .unset, .unset, .unset, .unset] [(.ref ob), (.ref oa)])) rfl (by rw [hml]; rfl) (Steps.refl _) (argsL := [(.ref ob)]) (rest := []) (lenOf pd_5 rfl) rfl (by show 2 * 0 + _ ≤ _; exact Nat.le_of_eq rfl) (hb hby at_288) (fun _ _ => ⟨rfl, rfl, (by decide : ((((5 + 0) + 0) + 0) + 0) + 0 ≤ _), (by decide : ((((23 + 0) + 0) + 0) + 0) + 0 ≤ _)⟩)
  dsimp only [Pt.U, Pt.locs, Pt.cells, Pt.slots] at X291 l291 y291 z291 st291 hQ291
  subst l291 y291 z291
  obtain ⟨rfl, Nq291, e291⟩ := hQ291
  have N291 := Fr.app N288 Nq291
  have r292 : Steps p.tables e below S0 (T291.setTop (mkF m 291 #[.val (.int p1), .val (.long p2), .second, .val (.long p3), .second, .val (.long p4), .second, .val (.int sl), .val (.ref b1), .val (.ref b2), .val (.int mm), .val (.int kk), .val (.int nm), .val (.int qq), .val (.int x1), .val (.int x2), .val (.int y1), .val (.int y2), .val (.int z1), .val (.int z2), .val (.ref oa), .val (.ref ob), .val (.ref oc), .unset, .unset, .unset, .unset, .unset, .unset, .unset, .unset, .unset, .unset, .unset, .unset] [(.ref oa)])) := r290.trans st291
  obtain ⟨mr1, sr1, hCr1, ysr1⟩ := c22 (c1 := (((0 : Int64) + (1 : Int64)) + (1 : Int64))) (c2 := (((0 : Int64) + (1 : Int64)) + (1 : Int64))) (t := (((0 : Int64) + (1 : Int64)) + (1 : Int64)) + (((0 : Int64) + (1 : Int64)) + (1 : Int64))) (by decide) (by decide) (by decide) yma2 ysa2 ymc2 ysc2 (nb2 bx1 bx2) (nb2 bz1 bz2) (sq_le (nb3 bx1 bx2)) (sq_le (nb3 bz1 bz2))
  have r293 : Steps p.tables e below S0 (T291.setTop (mkF m 306 #[.val (.int p1), .val (.long p2), .second, .val (.long p3), .second, .val (.long p4), .second, .val (.int sl), .val (.ref b1), .val (.ref b2), .val (.int mm), .val (.int kk), .val (.int nm), .val (.int qq), .val (.int x1), .val (.int x2), .val (.int y1), .val (.int y2), .val (.int z1), .val (.int z2), .val (.ref oa), .val (.ref ob), .val (.ref oc), .val (.ref oa), .unset, .unset, .unset, .unset, .unset, .unset, .unset, .unset, .unset, .unset, .unset] [(.ref oc), (.ref oa)])) := by
    refine r292.trans ?_
    show Steps p.tables e below (T291.setTop (mkF m 291 #[.val (.int p1), .val (.long p2), .second, .val (.long p3), .second, .val (.long p4), .second, .val (.int sl), .val (.ref b1), .val (.ref b2), .val (.int mm), .val (.int kk), .val (.int nm), .val (.int qq), .val (.int x1), .val (.int x2), .val (.int y1), .val (.int y2), .val (.int z1), .val (.int z2), .val (.ref oa), .val (.ref ob), .val (.ref oc), .unset, .unset, .unset, .unset, .unset, .unset, .unset, .unset, .unset, .unset, .unset, .unset] [(.ref oa)])) _
    refine XS.astore X291.here hx rfl (hb hby at_291) rfl rfl (l' := #[.val (.int p1), .val (.long p2), .second, .val (.long p3), .second, .val (.long p4), .second, .val (.int sl), .val (.ref b1), .val (.ref b2), .val (.int mm), .val (.int kk), .val (.int nm), .val (.int qq), .val (.int x1), .val (.int x2), .val (.int y1), .val (.int y2), .val (.int z1), .val (.int z2), .val (.ref oa), .val (.ref ob), .val (.ref oc), .val (.ref oa), .unset, .unset, .unset, .unset, .unset, .unset, .unset, .unset, .unset, .unset, .unset]) rfl ?_
    refine XS.aload X291.here hx rfl (hb hby at_293) rfl rfl ?_
    refine XS.aload X291.here hx rfl (hb hby at_295) rfl rfl ?_
    show Steps p.tables e below (T291.setTop (mkF m 297 #[.val (.int p1), .val (.long p2), .second, .val (.long p3), .second, .val (.long p4), .second, .val (.int sl), .val (.ref b1), .val (.ref b2), .val (.int mm), .val (.int kk), .val (.int nm), .val (.int qq), .val (.int x1), .val (.int x2), .val (.int y1), .val (.int y2), .val (.int z1), .val (.int z2), .val (.ref oa), .val (.ref ob), .val (.ref oc), .val (.ref oa), .unset, .unset, .unset, .unset, .unset, .unset, .unset, .unset, .unset, .unset, .unset] [(.ref oa), (.ref oa)])) _
    refine Jvm.RoadKit.acmp (g := (mkF m 297 #[.val (.int p1), .val (.long p2), .second, .val (.long p3), .second, .val (.long p4), .second, .val (.int sl), .val (.ref b1), .val (.ref b2), .val (.int mm), .val (.int kk), .val (.int nm), .val (.int qq), .val (.int x1), .val (.int x2), .val (.int y1), .val (.int y2), .val (.int z1), .val (.int z2), .val (.ref oa), .val (.ref ob), .val (.ref oc), .val (.ref oa), .unset, .unset, .unset, .unset, .unset, .unset, .unset, .unset, .unset, .unset, .unset] [(.ref oa), (.ref oa)])) X291 hx rfl rfl rfl (pc0 := 297) (pc' := 302) (same := true) rfl (hb hby at_297) rfl (decide_eq_true rfl) (by decide) (by decide) ?_
    refine XS.aload X291.here hx rfl (hb hby at_302) rfl rfl ?_
    refine XS.aload X291.here hx rfl (hb hby at_304) rfl rfl ?_
    exact Steps.refl _
  obtain ⟨cq294, kq294, q294a, q294b, q294c⟩ := isOf hZ e291 E288_oa
  obtain ⟨_, _, ⟨T294, L294, k294, n294⟩, -, X294, ⟨Lc294, hQ294, l294, y294, z294⟩, st294⟩ := X291.virtualBack hx (y := (⟨"org/rowfold/aggregate/Moments", "combine", "(Lorg/rowfold/aggregate/Moments;)Lorg/rowfold/aggregate/Moments;"⟩ : MethodName)) (z := (⟨"org/rowfold/aggregate/Moments", "combine", "(Lorg/rowfold/aggregate/Moments;)Lorg/rowfold/aggregate/Moments;"⟩ : MethodName)) hown (mvT hZ (hw _ (List.mem_of_getElem? (i := 15) rfl))) (mvT hZ (hw _ (List.mem_of_getElem? (i := 16) rfl))) (notFace_of_selects (args := #[]) (mvT hZ (hw _ (List.mem_of_getElem? (i := 18) rfl)))) (mvT hZ (hw _ (List.mem_of_getElem? (i := 18) rfl))) (mvT hZ (hw _ (List.mem_of_getElem? (i := 17) rfl))) (by decide) (backOf (W := 0) (rmC1 l Z a0 hw [] oa oc (((0 : Int64) + (1 : Int64)) + (1 : Int64)) ma2 sa2 (((0 : Int64) + (1 : Int64)) + (1 : Int64)) mc2 sc2 mr1 sr1 T288.heap n0 Z288 F288_oa_count F288_oa_mean F288_oa_squares Fc288 Fm288 Fs288 E288_oa g_oa ne_ac (by decide) hCr1) hZ (hw _ (List.mem_of_getElem? (i := 19) rfl)) (hw _ (List.mem_of_getElem? (i := 8) rfl)) (by decide) (by decide)) q294a q294c (g := (mkF m 306 #[.val (.int p1), .val (.long p2), .second, .val (.long p3), .second, .val (.long p4), .second, .val (.int sl), .val (.ref b1), .val (.ref b2), .val (.int mm), .val (.int kk), .val (.int nm), .val (.int qq), .val (.int x1), .val (.int x2), .val (.int y1), .val (.int y2), .val (.int z1), .val (.int z2), .val (.ref oa), .val (.ref ob), .val (.ref oc), .val (.ref oa), .unset, .unset, .unset, .unset, .unset, .unset, .unset, .unset, .unset, .unset, .unset] [(.ref oc), (.ref oa)])) rfl (by rw [hml]; rfl) (Steps.refl _) (argsL := [(.ref oc)]) (rest := []) (lenOf pd_5 rfl) rfl (by show 2 * 0 + _ ≤ _; exact Nat.le_of_eq rfl) (hb hby at_306) (fun _ _ => ⟨rfl, e291, (by decide : (((((5 + 0) + 0) + 0) + 0) + 0) + 0 ≤ _), (by decide : (((((23 + 0) + 0) + 0) + 0) + 0) + 0 ≤ _)⟩)
  dsimp only [Pt.U, Pt.locs, Pt.cells, Pt.slots] at X294 l294 y294 z294 st294 hQ294
  subst l294 y294 z294
  obtain ⟨rfl, Nq294, Kc294, Ec294, Fc294, Fm294, Fs294⟩ := hQ294
  have N294 := Fr.app N291 Nq294
  have r295 : Steps p.tables e below S0 (T294.setTop (mkF m 309 #[.val (.int p1), .val (.long p2), .second, .val (.long p3), .second, .val (.long p4), .second, .val (.int sl), .val (.ref b1), .val (.ref b2), .val (.int mm), .val (.int kk), .val (.int nm), .val (.int qq), .val (.int x1), .val (.int x2), .val (.int y1), .val (.int y2), .val (.int z1), .val (.int z2), .val (.ref oa), .val (.ref ob), .val (.ref oc), .val (.ref oa), .unset, .unset, .unset, .unset, .unset, .unset, .unset, .unset, .unset, .unset, .unset] [(.ref oa)])) := r293.trans st294
  have F294_ob_count := F288_ob_count.keep Kc294 (ninS (Ne.symm ne_ab) nin0)
  have F294_ob_mean := F288_ob_mean.keep Kc294 (ninS (Ne.symm ne_ab) nin0)
  have F294_ob_squares := F288_ob_squares.keep Kc294 (ninS (Ne.symm ne_ab) nin0)
  have F294_oc_count := Fc288.keep Kc294 (ninS (Ne.symm ne_ac) nin0)
  have F294_oc_mean := Fm288.keep Kc294 (ninS (Ne.symm ne_ac) nin0)
  have F294_oc_squares := Fs288.keep Kc294 (ninS (Ne.symm ne_ac) nin0)
  have E294_oa := E288_oa.keep Kc294
  have E294_ob := E288_ob.keep Kc294
  have E294_oc := Ec288.keep Kc294
  have Z294 : n0 ≤ T294.heap.size := Nat.le_trans Z288 Kc294.1
  have O294 := O288.keep Kc294 (allS g_oa (all0))
  have r296 : Steps p.tables e below S0 (T294.setTop (mkF m 320 #[.val (.int p1), .val (.long p2), .second, .val (.long p3), .second, .val (.long p4), .second, .val (.int sl), .val (.ref b1), .val (.ref b2), .val (.int mm), .val (.int kk), .val (.int nm), .val (.int qq), .val (.int x1), .val (.int x2), .val (.int y1), .val (.int y2), .val (.int z1), .val (.int z2), .val (.ref oa), .val (.ref ob), .val (.ref oc), .val (.ref oa), .val (.ref oa), .unset, .unset, .unset, .unset, .unset, .unset, .unset, .unset, .unset, .unset] [])) := by
    refine r295.trans ?_
    show Steps p.tables e below (T294.setTop (mkF m 309 #[.val (.int p1), .val (.long p2), .second, .val (.long p3), .second, .val (.long p4), .second, .val (.int sl), .val (.ref b1), .val (.ref b2), .val (.int mm), .val (.int kk), .val (.int nm), .val (.int qq), .val (.int x1), .val (.int x2), .val (.int y1), .val (.int y2), .val (.int z1), .val (.int z2), .val (.ref oa), .val (.ref ob), .val (.ref oc), .val (.ref oa), .unset, .unset, .unset, .unset, .unset, .unset, .unset, .unset, .unset, .unset, .unset] [(.ref oa)])) _
    refine XS.astore X294.here hx rfl (hb hby at_309) rfl rfl (l' := #[.val (.int p1), .val (.long p2), .second, .val (.long p3), .second, .val (.long p4), .second, .val (.int sl), .val (.ref b1), .val (.ref b2), .val (.int mm), .val (.int kk), .val (.int nm), .val (.int qq), .val (.int x1), .val (.int x2), .val (.int y1), .val (.int y2), .val (.int z1), .val (.int z2), .val (.ref oa), .val (.ref ob), .val (.ref oc), .val (.ref oa), .val (.ref oa), .unset, .unset, .unset, .unset, .unset, .unset, .unset, .unset, .unset, .unset]) rfl ?_
    refine XS.aload X294.here hx rfl (hb hby at_311) rfl rfl ?_
    refine XS.aload X294.here hx rfl (hb hby at_313) rfl rfl ?_
    show Steps p.tables e below (T294.setTop (mkF m 315 #[.val (.int p1), .val (.long p2), .second, .val (.long p3), .second, .val (.long p4), .second, .val (.int sl), .val (.ref b1), .val (.ref b2), .val (.int mm), .val (.int kk), .val (.int nm), .val (.int qq), .val (.int x1), .val (.int x2), .val (.int y1), .val (.int y2), .val (.int z1), .val (.int z2), .val (.ref oa), .val (.ref ob), .val (.ref oc), .val (.ref oa), .val (.ref oa), .unset, .unset, .unset, .unset, .unset, .unset, .unset, .unset, .unset, .unset] [(.ref oa), (.ref oa)])) _
    refine Jvm.RoadKit.acmp (g := (mkF m 315 #[.val (.int p1), .val (.long p2), .second, .val (.long p3), .second, .val (.long p4), .second, .val (.int sl), .val (.ref b1), .val (.ref b2), .val (.int mm), .val (.int kk), .val (.int nm), .val (.int qq), .val (.int x1), .val (.int x2), .val (.int y1), .val (.int y2), .val (.int z1), .val (.int z2), .val (.ref oa), .val (.ref ob), .val (.ref oc), .val (.ref oa), .val (.ref oa), .unset, .unset, .unset, .unset, .unset, .unset, .unset, .unset, .unset, .unset] [(.ref oa), (.ref oa)])) X294 hx rfl rfl rfl (pc0 := 315) (pc' := 320) (same := true) rfl (hb hby at_315) rfl (decide_eq_true rfl) (by decide) (by decide) ?_
    exact Steps.refl _
  have htot : nm + qq = 4 := by rw [hn, hq]; decide
  have hid := id4 x1.toInt x2.toInt z1.toInt z2.toInt
  have hW : _ = 4 * SQ - SX * SX := hid.trans (by rw [hSQ, hSX, B0_, B1_, B2_, B3_, B4_, B5_]; simp only [Int.mul_zero, Int.zero_add, Int.add_zero, Int.add_assoc])
  exact ⟨T294, T294.heap, _, ((((0 : Int64) + (1 : Int64)) + (1 : Int64)) + (((0 : Int64) + (1 : Int64)) + (1 : Int64))), sr1, X294, rfl, N294, O294, Z294, Ec294, Fc294, Fs294, Or.inr (Or.inr ⟨by decide, htot, ysr1.cast hW rfl⟩), r296⟩
set_option maxRecDepth 65536 in
set_option maxHeartbeats 40000000 in
theorem sgB5 {p : Program} {e : Env} {s : State} {m : MethodId} {below : List Frame} {meth : Method} {c : Code} (l : Launch) (Z : State) (a0 : Array Value) (hw : ∀ d ∈ tables_1, d.before a0 Z = true) (p1 : Int32) (p2 p3 p4 : Int64) (hx : p.tables.exec = Jvm.exec) (hby : c.code = code) (hml : c.maxLocals = 35) (hown : s.vm.findClass "org/rowfold/aggregate/MomentsCombinePinLaw" = some m.cls) (hZ : Z.Warmed39 s.vm) (b1 : Addr) (b2 : Addr) (sl : Int32) (mm : Int32) (kk : Int32) (nm : Int32) (qq : Int32) (x1 : Int32) (x2 : Int32) (y1 : Int32) (y2 : Int32) (z1 : Int32) (z2 : Int32) (oa : Addr) (ob : Addr) (oc : Addr) (B0 : Int) (B1 : Int) (B2 : Int) (B3 : Int) (B4 : Int) (B5 : Int) (SX : Int) (SQ : Int) (S0 T0 : State) (h0 : Heap) (L0 : List Loc) (n0 : Nat) (X0 : Stand p l e room_1 s m #[(.int p1), (.long p2), (.long p3), (.long p4)] below meth c T0 L0 5 23) (e0 : T0.heap = h0) (N0 : Fr n0 L0) (O0 : Old Z n0 h0) (Z0 : n0 ≤ h0.size) (bx1 : x1.toInt.natAbs ≤ 1048576) (bx2 : x2.toInt.natAbs ≤ 1048576) (by1 : y1.toInt.natAbs ≤ 1048576) (by2 : y2.toInt.natAbs ≤ 1048576) (bz1 : z1.toInt.natAbs ≤ 1048576) (bz2 : z2.toInt.natAbs ≤ 1048576) (g_oa : n0 ≤ oa) (g_ob : n0 ≤ ob) (g_oc : n0 ≤ oc) (ne_ab : oa ≠ ob) (ne_ac : oa ≠ oc) (ne_bc : ob ≠ oc) (E_oa : Exa Z h0 oa "org/rowfold/aggregate/Moments") (E_ob : Exa Z h0 ob "org/rowfold/aggregate/Moments") (E_oc : Exa Z h0 oc "org/rowfold/aggregate/Moments") (F_oa_count : Fld Z h0 oa "org/rowfold/aggregate/Moments" "count" "J" (.long (0 : Int64))) (F_oa_mean : Fld Z h0 oa "org/rowfold/aggregate/Moments" "mean" "D" (.double (0 : UInt64))) (F_oa_squares : Fld Z h0 oa "org/rowfold/aggregate/Moments" "squares" "D" (.double (0 : UInt64))) (F_ob_count : Fld Z h0 ob "org/rowfold/aggregate/Moments" "count" "J" (.long (0 : Int64))) (F_ob_mean : Fld Z h0 ob "org/rowfold/aggregate/Moments" "mean" "D" (.double (0 : UInt64))) (F_ob_squares : Fld Z h0 ob "org/rowfold/aggregate/Moments" "squares" "D" (.double (0 : UInt64))) (F_oc_count : Fld Z h0 oc "org/rowfold/aggregate/Moments" "count" "J" (.long (0 : Int64))) (F_oc_mean : Fld Z h0 oc "org/rowfold/aggregate/Moments" "mean" "D" (.double (0 : UInt64))) (F_oc_squares : Fld Z h0 oc "org/rowfold/aggregate/Moments" "squares" "D" (.double (0 : UInt64))) (hB0 : B0 = (if mm < (1 : Int32) then 0 else x1.toInt)) (hB1 : B1 = (if mm < (2 : Int32) then 0 else x2.toInt)) (hB2 : B2 = (if kk < (1 : Int32) then 0 else y1.toInt)) (hB3 : B3 = (if kk < (2 : Int32) then 0 else y2.toInt)) (hB4 : B4 = (if qq < (1 : Int32) then 0 else z1.toInt)) (hB5 : B5 = (if qq < (2 : Int32) then 0 else z2.toInt)) (hSX : SX = B0 + B1 + B2 + B3 + B4 + B5) (hSQ : SQ = B0 * B0 + B1 * B1 + B2 * B2 + B3 * B3 + B4 * B4 + B5 * B5) (hm : mm = 1) (hk : kk = 1) (hn : nm = 2) (hqq : ((nm = 1 ∧ qq = 1) ∨ (nm = 2 ∧ qq = 2) ∨ (¬ nm = 1 ∧ ¬ nm = 2 ∧ qq = 0))) (r0 : Steps p.tables e below S0 (T0.setTop (mkF m 203 #[.val (.int p1), .val (.long p2), .second, .val (.long p3), .second, .val (.long p4), .second, .val (.int sl), .val (.ref b1), .val (.ref b2), .val (.int mm), .val (.int kk), .val (.int nm), .val (.int qq), .val (.int x1), .val (.int x2), .val (.int y1), .val (.int y2), .val (.int z1), .val (.int z2), .val (.ref oa), .val (.ref ob), .val (.ref oc), .unset, .unset, .unset, .unset, .unset, .unset, .unset, .unset, .unset, .unset, .unset, .unset] [(.int (1 : Int32)), (.int mm)]))) :
    ∃ (T' : State) (h' : Heap) (L' : List Loc) (cn : Int64) (sq : UInt64), Stand p l e room_1 s m #[(.int p1), (.long p2), (.long p3), (.long p4)] below meth c T' L' 5 23 ∧ T'.heap = h' ∧ Fr n0 L' ∧ Old Z n0 h' ∧ n0 ≤ h'.size ∧ Exa Z h' oa "org/rowfold/aggregate/Moments" ∧ Fld Z h' oa "org/rowfold/aggregate/Moments" "count" "J" (.long cn) ∧ Fld Z h' oa "org/rowfold/aggregate/Moments" "squares" "D" (.double sq) ∧ ((cn.toInt = 0 ∧ nm + qq = 0) ∨ (cn.toInt = 2 ∧ nm + qq = 2 ∧ Dy (2 * SQ - SX * SX) 1 sq) ∨ (cn.toInt = 4 ∧ nm + qq = 4 ∧ Dy (4 * SQ - SX * SX) 2 sq)) ∧ Steps p.tables e below S0 (T'.setTop (mkF m 320 #[.val (.int p1), .val (.long p2), .second, .val (.long p3), .second, .val (.long p4), .second, .val (.int sl), .val (.ref b1), .val (.ref b2), .val (.int mm), .val (.int kk), .val (.int nm), .val (.int qq), .val (.int x1), .val (.int x2), .val (.int y1), .val (.int y2), .val (.int z1), .val (.int z2), .val (.ref oa), .val (.ref ob), .val (.ref oc), .val (.ref oa), .val (.ref oa), .unset, .unset, .unset, .unset, .unset, .unset, .unset, .unset, .unset, .unset] [])) := by
  have hq : qq = 2 := by
    rcases hqq with ⟨z1_, z2_⟩ | ⟨z1_, z2_⟩ | ⟨z1_, z2_, z3_⟩
    · first | exact z2_ | exact absurd (hn.symm.trans z1_) (by decide)
    · first | exact z2_ | exact absurd (hn.symm.trans z1_) (by decide)
    · first | exact z3_ | exact absurd hn z1_ | exact absurd hn z2_
  have B0_ : B0 = x1.toInt := by rw [hB0, hm]; exact if_neg (by decide)
  have B1_ : B1 = 0 := by rw [hB1, hm]; exact if_pos (by decide)
  have B2_ : B2 = y1.toInt := by rw [hB2, hk]; exact if_neg (by decide)
  have B3_ : B3 = 0 := by rw [hB3, hk]; exact if_pos (by decide)
  have B4_ : B4 = z1.toInt := by rw [hB4, hq]; exact if_neg (by decide)
  have B5_ : B5 = z2.toInt := by rw [hB5, hq]; exact if_neg (by decide)
  have hm1_ : ¬ mm < (1 : Int32) := by rw [hm]; decide
  have hca1 : ((0 : Int64) + (1 : Int64)).toInt = 1 := by decide
  obtain ⟨ma1, sa1, hAa1, yma1, ysa1⟩ := st1 (Dy.i2d x1) (nb1 bx1) hca1
  have r297 : Steps p.tables e below S0 (T0.setTop (mkF m 211 #[.val (.int p1), .val (.long p2), .second, .val (.long p3), .second, .val (.long p4), .second, .val (.int sl), .val (.ref b1), .val (.ref b2), .val (.int mm), .val (.int kk), .val (.int nm), .val (.int qq), .val (.int x1), .val (.int x2), .val (.int y1), .val (.int y2), .val (.int z1), .val (.int z2), .val (.ref oa), .val (.ref ob), .val (.ref oc), .unset, .unset, .unset, .unset, .unset, .unset, .unset, .unset, .unset, .unset, .unset, .unset] [(.double (FP.i2d x1)), (.ref oa)])) := by
    refine r0.trans ?_
    show Steps p.tables e below (T0.setTop (mkF m 203 #[.val (.int p1), .val (.long p2), .second, .val (.long p3), .second, .val (.long p4), .second, .val (.int sl), .val (.ref b1), .val (.ref b2), .val (.int mm), .val (.int kk), .val (.int nm), .val (.int qq), .val (.int x1), .val (.int x2), .val (.int y1), .val (.int y2), .val (.int z1), .val (.int z2), .val (.ref oa), .val (.ref ob), .val (.ref oc), .unset, .unset, .unset, .unset, .unset, .unset, .unset, .unset, .unset, .unset, .unset, .unset] [(.int (1 : Int32)), (.int mm)])) _
    refine XS.icmpNo X0.here hx rfl (hb hby at_203) rfl (flt hm1_).1 ?_
    refine XS.aload X0.here hx rfl (hb hby at_206) rfl rfl ?_
    refine XS.iload X0.here hx rfl (hb hby at_208) rfl ?_
    show Steps p.tables e below (T0.setTop (mkF m 210 #[.val (.int p1), .val (.long p2), .second, .val (.long p3), .second, .val (.long p4), .second, .val (.int sl), .val (.ref b1), .val (.ref b2), .val (.int mm), .val (.int kk), .val (.int nm), .val (.int qq), .val (.int x1), .val (.int x2), .val (.int y1), .val (.int y2), .val (.int z1), .val (.int z2), .val (.ref oa), .val (.ref ob), .val (.ref oc), .unset, .unset, .unset, .unset, .unset, .unset, .unset, .unset, .unset, .unset, .unset, .unset] [(.int x1), (.ref oa)])) _
    refine XS.i2dS X0.here hx rfl (hb hby at_210) rfl rfl ?_
    exact Steps.refl _
  obtain ⟨cq298, kq298, q298a, q298b, q298c⟩ := isOf hZ e0 E_oa
  obtain ⟨_, _, ⟨T298, L298, k298, n298⟩, -, X298, ⟨Lc298, hQ298, l298, y298, z298⟩, st298⟩ := X0.virtualBack hx (y := (⟨"org/rowfold/aggregate/Moments", "add", "(D)V"⟩ : MethodName)) (z := (⟨"org/rowfold/aggregate/Moments", "add", "(D)V"⟩ : MethodName)) hown (mvT hZ (hw _ (List.mem_of_getElem? (i := 45) rfl))) (mvT hZ (hw _ (List.mem_of_getElem? (i := 46) rfl))) (notFace_of_selects (args := #[]) (mvT hZ (hw _ (List.mem_of_getElem? (i := 48) rfl)))) (mvT hZ (hw _ (List.mem_of_getElem? (i := 48) rfl))) (mvT hZ (hw _ (List.mem_of_getElem? (i := 47) rfl))) (by decide) (backOf (W := 0) (rmA l Z a0 hw [] oa (FP.i2d x1) (0 : Int64) (0 : UInt64) (0 : UInt64) ma1 sa1 h0 n0 Z0 F_oa_count F_oa_mean F_oa_squares E_oa g_oa hAa1) hZ (hw _ (List.mem_of_getElem? (i := 49) rfl)) (hw _ (List.mem_of_getElem? (i := 8) rfl)) (by decide) (by decide)) q298a q298c (g := (mkF m 211 #[.val (.int p1), .val (.long p2), .second, .val (.long p3), .second, .val (.long p4), .second, .val (.int sl), .val (.ref b1), .val (.ref b2), .val (.int mm), .val (.int kk), .val (.int nm), .val (.int qq), .val (.int x1), .val (.int x2), .val (.int y1), .val (.int y2), .val (.int z1), .val (.int z2), .val (.ref oa), .val (.ref ob), .val (.ref oc), .unset, .unset, .unset, .unset, .unset, .unset, .unset, .unset, .unset, .unset, .unset, .unset] [(.double (FP.i2d x1)), (.ref oa)])) rfl (by rw [hml]; rfl) (Steps.refl _) (argsL := [(.double (FP.i2d x1))]) (rest := []) (lenOf pd_0 rfl) rfl (by show 2 * 0 + _ ≤ _; exact Nat.le_of_eq rfl) (hb hby at_211) (fun _ _ => ⟨rfl, e0, (by decide : 5 + 0 ≤ _), (by decide : 23 + 0 ≤ _)⟩)
  dsimp only [Pt.U, Pt.locs, Pt.cells, Pt.slots] at X298 l298 y298 z298 st298 hQ298
  subst l298 y298 z298
  obtain ⟨rfl, Nq298, Kc298, Ec298, Fc298, Fm298, Fs298⟩ := hQ298
  have N298 := Fr.app N0 Nq298
  have r299 : Steps p.tables e below S0 (T298.setTop (mkF m 214 #[.val (.int p1), .val (.long p2), .second, .val (.long p3), .second, .val (.long p4), .second, .val (.int sl), .val (.ref b1), .val (.ref b2), .val (.int mm), .val (.int kk), .val (.int nm), .val (.int qq), .val (.int x1), .val (.int x2), .val (.int y1), .val (.int y2), .val (.int z1), .val (.int z2), .val (.ref oa), .val (.ref ob), .val (.ref oc), .unset, .unset, .unset, .unset, .unset, .unset, .unset, .unset, .unset, .unset, .unset, .unset] [])) := r297.trans st298
  have F298_ob_count := F_ob_count.keep Kc298 (ninS (Ne.symm ne_ab) nin0)
  have F298_ob_mean := F_ob_mean.keep Kc298 (ninS (Ne.symm ne_ab) nin0)
  have F298_ob_squares := F_ob_squares.keep Kc298 (ninS (Ne.symm ne_ab) nin0)
  have F298_oc_count := F_oc_count.keep Kc298 (ninS (Ne.symm ne_ac) nin0)
  have F298_oc_mean := F_oc_mean.keep Kc298 (ninS (Ne.symm ne_ac) nin0)
  have F298_oc_squares := F_oc_squares.keep Kc298 (ninS (Ne.symm ne_ac) nin0)
  have E298_oa := E_oa.keep Kc298
  have E298_ob := E_ob.keep Kc298
  have E298_oc := E_oc.keep Kc298
  have Z298 : n0 ≤ T298.heap.size := Nat.le_trans Z0 Kc298.1
  have O298 := O0.keep Kc298 (allS g_oa (all0))
  have hm2_ : mm < (2 : Int32) := by rw [hm]; decide
  have hk1_ : ¬ kk < (1 : Int32) := by rw [hk]; decide
  have hcb1 : ((0 : Int64) + (1 : Int64)).toInt = 1 := by decide
  obtain ⟨mb1, sb1, hAb1, ymb1, ysb1⟩ := st1 (Dy.i2d y1) (nb1 by1) hcb1
  have r300 : Steps p.tables e below S0 (T298.setTop (mkF m 239 #[.val (.int p1), .val (.long p2), .second, .val (.long p3), .second, .val (.long p4), .second, .val (.int sl), .val (.ref b1), .val (.ref b2), .val (.int mm), .val (.int kk), .val (.int nm), .val (.int qq), .val (.int x1), .val (.int x2), .val (.int y1), .val (.int y2), .val (.int z1), .val (.int z2), .val (.ref oa), .val (.ref ob), .val (.ref oc), .unset, .unset, .unset, .unset, .unset, .unset, .unset, .unset, .unset, .unset, .unset, .unset] [(.double (FP.i2d y1)), (.ref ob)])) := by
    refine r299.trans ?_
    show Steps p.tables e below (T298.setTop (mkF m 214 #[.val (.int p1), .val (.long p2), .second, .val (.long p3), .second, .val (.long p4), .second, .val (.int sl), .val (.ref b1), .val (.ref b2), .val (.int mm), .val (.int kk), .val (.int nm), .val (.int qq), .val (.int x1), .val (.int x2), .val (.int y1), .val (.int y2), .val (.int z1), .val (.int z2), .val (.ref oa), .val (.ref ob), .val (.ref oc), .unset, .unset, .unset, .unset, .unset, .unset, .unset, .unset, .unset, .unset, .unset, .unset] [])) _
    refine XS.iload X298.here hx rfl (hb hby at_214) rfl ?_
    refine XS.iconst X298.here hx rfl (hb hby at_216) ?_
    refine XS.icmpYes X298.here hx rfl (pc0 := 217) (pc' := 228) rfl (hb hby at_217) rfl (tlt hm2_).1 (by decide) (by decide) ?_
    show Steps p.tables e below (T298.setTop (mkF m 228 #[.val (.int p1), .val (.long p2), .second, .val (.long p3), .second, .val (.long p4), .second, .val (.int sl), .val (.ref b1), .val (.ref b2), .val (.int mm), .val (.int kk), .val (.int nm), .val (.int qq), .val (.int x1), .val (.int x2), .val (.int y1), .val (.int y2), .val (.int z1), .val (.int z2), .val (.ref oa), .val (.ref ob), .val (.ref oc), .unset, .unset, .unset, .unset, .unset, .unset, .unset, .unset, .unset, .unset, .unset, .unset] [])) _
    refine XS.iload X298.here hx rfl (hb hby at_228) rfl ?_
    refine XS.iconst X298.here hx rfl (hb hby at_230) ?_
    refine XS.icmpNo X298.here hx rfl (hb hby at_231) rfl (flt hk1_).1 ?_
    show Steps p.tables e below (T298.setTop (mkF m 234 #[.val (.int p1), .val (.long p2), .second, .val (.long p3), .second, .val (.long p4), .second, .val (.int sl), .val (.ref b1), .val (.ref b2), .val (.int mm), .val (.int kk), .val (.int nm), .val (.int qq), .val (.int x1), .val (.int x2), .val (.int y1), .val (.int y2), .val (.int z1), .val (.int z2), .val (.ref oa), .val (.ref ob), .val (.ref oc), .unset, .unset, .unset, .unset, .unset, .unset, .unset, .unset, .unset, .unset, .unset, .unset] [])) _
    refine XS.aload X298.here hx rfl (hb hby at_234) rfl rfl ?_
    refine XS.iload X298.here hx rfl (hb hby at_236) rfl ?_
    refine XS.i2dS X298.here hx rfl (hb hby at_238) rfl rfl ?_
    exact Steps.refl _
  obtain ⟨cq301, kq301, q301a, q301b, q301c⟩ := isOf hZ rfl E298_ob
  obtain ⟨_, _, ⟨T301, L301, k301, n301⟩, -, X301, ⟨Lc301, hQ301, l301, y301, z301⟩, st301⟩ := X298.virtualBack hx (y := (⟨"org/rowfold/aggregate/Moments", "add", "(D)V"⟩ : MethodName)) (z := (⟨"org/rowfold/aggregate/Moments", "add", "(D)V"⟩ : MethodName)) hown (mvT hZ (hw _ (List.mem_of_getElem? (i := 45) rfl))) (mvT hZ (hw _ (List.mem_of_getElem? (i := 46) rfl))) (notFace_of_selects (args := #[]) (mvT hZ (hw _ (List.mem_of_getElem? (i := 48) rfl)))) (mvT hZ (hw _ (List.mem_of_getElem? (i := 48) rfl))) (mvT hZ (hw _ (List.mem_of_getElem? (i := 47) rfl))) (by decide) (backOf (W := 0) (rmA l Z a0 hw [] ob (FP.i2d y1) (0 : Int64) (0 : UInt64) (0 : UInt64) mb1 sb1 T298.heap n0 Z298 F298_ob_count F298_ob_mean F298_ob_squares E298_ob g_ob hAb1) hZ (hw _ (List.mem_of_getElem? (i := 49) rfl)) (hw _ (List.mem_of_getElem? (i := 8) rfl)) (by decide) (by decide)) q301a q301c (g := (mkF m 239 #[.val (.int p1), .val (.long p2), .second, .val (.long p3), .second, .val (.long p4), .second, .val (.int sl), .val (.ref b1), .val (.ref b2), .val (.int mm), .val (.int kk), .val (.int nm), .val (.int qq), .val (.int x1), .val (.int x2), .val (.int y1), .val (.int y2), .val (.int z1), .val (.int z2), .val (.ref oa), .val (.ref ob), .val (.ref oc), .unset, .unset, .unset, .unset, .unset, .unset, .unset, .unset, .unset, .unset, .unset, .unset] [(.double (FP.i2d y1)), (.ref ob)])) rfl (by rw [hml]; rfl) (Steps.refl _) (argsL := [(.double (FP.i2d y1))]) (rest := []) (lenOf pd_0 rfl) rfl (by show 2 * 0 + _ ≤ _; exact Nat.le_of_eq rfl) (hb hby at_239) (fun _ _ => ⟨rfl, rfl, (by decide : (5 + 0) + 0 ≤ _), (by decide : (23 + 0) + 0 ≤ _)⟩)
  dsimp only [Pt.U, Pt.locs, Pt.cells, Pt.slots] at X301 l301 y301 z301 st301 hQ301
  subst l301 y301 z301
  obtain ⟨rfl, Nq301, Kc301, Ec301, Fc301, Fm301, Fs301⟩ := hQ301
  have N301 := Fr.app N298 Nq301
  have r302 : Steps p.tables e below S0 (T301.setTop (mkF m 242 #[.val (.int p1), .val (.long p2), .second, .val (.long p3), .second, .val (.long p4), .second, .val (.int sl), .val (.ref b1), .val (.ref b2), .val (.int mm), .val (.int kk), .val (.int nm), .val (.int qq), .val (.int x1), .val (.int x2), .val (.int y1), .val (.int y2), .val (.int z1), .val (.int z2), .val (.ref oa), .val (.ref ob), .val (.ref oc), .unset, .unset, .unset, .unset, .unset, .unset, .unset, .unset, .unset, .unset, .unset, .unset] [])) := r300.trans st301
  have F301_oc_count := F298_oc_count.keep Kc301 (ninS (Ne.symm ne_bc) nin0)
  have F301_oc_mean := F298_oc_mean.keep Kc301 (ninS (Ne.symm ne_bc) nin0)
  have F301_oc_squares := F298_oc_squares.keep Kc301 (ninS (Ne.symm ne_bc) nin0)
  have F301_oa_count := Fc298.keep Kc301 (ninS ne_ab nin0)
  have F301_oa_mean := Fm298.keep Kc301 (ninS ne_ab nin0)
  have F301_oa_squares := Fs298.keep Kc301 (ninS ne_ab nin0)
  have E301_oa := Ec298.keep Kc301
  have E301_ob := E298_ob.keep Kc301
  have E301_oc := E298_oc.keep Kc301
  have Z301 : n0 ≤ T301.heap.size := Nat.le_trans Z298 Kc301.1
  have O301 := O298.keep Kc301 (allS g_ob (all0))
  have hk2_ : kk < (2 : Int32) := by rw [hk]; decide
  have hq1_ : ¬ qq < (1 : Int32) := by rw [hq]; decide
  have hcc1 : ((0 : Int64) + (1 : Int64)).toInt = 1 := by decide
  obtain ⟨mc1, sc1, hAc1, ymc1, ysc1⟩ := st1 (Dy.i2d z1) (nb1 bz1) hcc1
  have r303 : Steps p.tables e below S0 (T301.setTop (mkF m 267 #[.val (.int p1), .val (.long p2), .second, .val (.long p3), .second, .val (.long p4), .second, .val (.int sl), .val (.ref b1), .val (.ref b2), .val (.int mm), .val (.int kk), .val (.int nm), .val (.int qq), .val (.int x1), .val (.int x2), .val (.int y1), .val (.int y2), .val (.int z1), .val (.int z2), .val (.ref oa), .val (.ref ob), .val (.ref oc), .unset, .unset, .unset, .unset, .unset, .unset, .unset, .unset, .unset, .unset, .unset, .unset] [(.double (FP.i2d z1)), (.ref oc)])) := by
    refine r302.trans ?_
    show Steps p.tables e below (T301.setTop (mkF m 242 #[.val (.int p1), .val (.long p2), .second, .val (.long p3), .second, .val (.long p4), .second, .val (.int sl), .val (.ref b1), .val (.ref b2), .val (.int mm), .val (.int kk), .val (.int nm), .val (.int qq), .val (.int x1), .val (.int x2), .val (.int y1), .val (.int y2), .val (.int z1), .val (.int z2), .val (.ref oa), .val (.ref ob), .val (.ref oc), .unset, .unset, .unset, .unset, .unset, .unset, .unset, .unset, .unset, .unset, .unset, .unset] [])) _
    refine XS.iload X301.here hx rfl (hb hby at_242) rfl ?_
    refine XS.iconst X301.here hx rfl (hb hby at_244) ?_
    refine XS.icmpYes X301.here hx rfl (pc0 := 245) (pc' := 256) rfl (hb hby at_245) rfl (tlt hk2_).1 (by decide) (by decide) ?_
    show Steps p.tables e below (T301.setTop (mkF m 256 #[.val (.int p1), .val (.long p2), .second, .val (.long p3), .second, .val (.long p4), .second, .val (.int sl), .val (.ref b1), .val (.ref b2), .val (.int mm), .val (.int kk), .val (.int nm), .val (.int qq), .val (.int x1), .val (.int x2), .val (.int y1), .val (.int y2), .val (.int z1), .val (.int z2), .val (.ref oa), .val (.ref ob), .val (.ref oc), .unset, .unset, .unset, .unset, .unset, .unset, .unset, .unset, .unset, .unset, .unset, .unset] [])) _
    refine XS.iload X301.here hx rfl (hb hby at_256) rfl ?_
    refine XS.iconst X301.here hx rfl (hb hby at_258) ?_
    refine XS.icmpNo X301.here hx rfl (hb hby at_259) rfl (flt hq1_).1 ?_
    show Steps p.tables e below (T301.setTop (mkF m 262 #[.val (.int p1), .val (.long p2), .second, .val (.long p3), .second, .val (.long p4), .second, .val (.int sl), .val (.ref b1), .val (.ref b2), .val (.int mm), .val (.int kk), .val (.int nm), .val (.int qq), .val (.int x1), .val (.int x2), .val (.int y1), .val (.int y2), .val (.int z1), .val (.int z2), .val (.ref oa), .val (.ref ob), .val (.ref oc), .unset, .unset, .unset, .unset, .unset, .unset, .unset, .unset, .unset, .unset, .unset, .unset] [])) _
    refine XS.aload X301.here hx rfl (hb hby at_262) rfl rfl ?_
    refine XS.iload X301.here hx rfl (hb hby at_264) rfl ?_
    refine XS.i2dS X301.here hx rfl (hb hby at_266) rfl rfl ?_
    exact Steps.refl _
  obtain ⟨cq304, kq304, q304a, q304b, q304c⟩ := isOf hZ rfl E301_oc
  obtain ⟨_, _, ⟨T304, L304, k304, n304⟩, -, X304, ⟨Lc304, hQ304, l304, y304, z304⟩, st304⟩ := X301.virtualBack hx (y := (⟨"org/rowfold/aggregate/Moments", "add", "(D)V"⟩ : MethodName)) (z := (⟨"org/rowfold/aggregate/Moments", "add", "(D)V"⟩ : MethodName)) hown (mvT hZ (hw _ (List.mem_of_getElem? (i := 45) rfl))) (mvT hZ (hw _ (List.mem_of_getElem? (i := 46) rfl))) (notFace_of_selects (args := #[]) (mvT hZ (hw _ (List.mem_of_getElem? (i := 48) rfl)))) (mvT hZ (hw _ (List.mem_of_getElem? (i := 48) rfl))) (mvT hZ (hw _ (List.mem_of_getElem? (i := 47) rfl))) (by decide) (backOf (W := 0) (rmA l Z a0 hw [] oc (FP.i2d z1) (0 : Int64) (0 : UInt64) (0 : UInt64) mc1 sc1 T301.heap n0 Z301 F301_oc_count F301_oc_mean F301_oc_squares E301_oc g_oc hAc1) hZ (hw _ (List.mem_of_getElem? (i := 49) rfl)) (hw _ (List.mem_of_getElem? (i := 8) rfl)) (by decide) (by decide)) q304a q304c (g := (mkF m 267 #[.val (.int p1), .val (.long p2), .second, .val (.long p3), .second, .val (.long p4), .second, .val (.int sl), .val (.ref b1), .val (.ref b2), .val (.int mm), .val (.int kk), .val (.int nm), .val (.int qq), .val (.int x1), .val (.int x2), .val (.int y1), .val (.int y2), .val (.int z1), .val (.int z2), .val (.ref oa), .val (.ref ob), .val (.ref oc), .unset, .unset, .unset, .unset, .unset, .unset, .unset, .unset, .unset, .unset, .unset, .unset] [(.double (FP.i2d z1)), (.ref oc)])) rfl (by rw [hml]; rfl) (Steps.refl _) (argsL := [(.double (FP.i2d z1))]) (rest := []) (lenOf pd_0 rfl) rfl (by show 2 * 0 + _ ≤ _; exact Nat.le_of_eq rfl) (hb hby at_267) (fun _ _ => ⟨rfl, rfl, (by decide : ((5 + 0) + 0) + 0 ≤ _), (by decide : ((23 + 0) + 0) + 0 ≤ _)⟩)
  dsimp only [Pt.U, Pt.locs, Pt.cells, Pt.slots] at X304 l304 y304 z304 st304 hQ304
  subst l304 y304 z304
  obtain ⟨rfl, Nq304, Kc304, Ec304, Fc304, Fm304, Fs304⟩ := hQ304
  have N304 := Fr.app N301 Nq304
  have r305 : Steps p.tables e below S0 (T304.setTop (mkF m 270 #[.val (.int p1), .val (.long p2), .second, .val (.long p3), .second, .val (.long p4), .second, .val (.int sl), .val (.ref b1), .val (.ref b2), .val (.int mm), .val (.int kk), .val (.int nm), .val (.int qq), .val (.int x1), .val (.int x2), .val (.int y1), .val (.int y2), .val (.int z1), .val (.int z2), .val (.ref oa), .val (.ref ob), .val (.ref oc), .unset, .unset, .unset, .unset, .unset, .unset, .unset, .unset, .unset, .unset, .unset, .unset] [])) := r303.trans st304
  have F304_oa_count := F301_oa_count.keep Kc304 (ninS ne_ac nin0)
  have F304_oa_mean := F301_oa_mean.keep Kc304 (ninS ne_ac nin0)
  have F304_oa_squares := F301_oa_squares.keep Kc304 (ninS ne_ac nin0)
  have F304_ob_count := Fc301.keep Kc304 (ninS ne_bc nin0)
  have F304_ob_mean := Fm301.keep Kc304 (ninS ne_bc nin0)
  have F304_ob_squares := Fs301.keep Kc304 (ninS ne_bc nin0)
  have E304_oa := E301_oa.keep Kc304
  have E304_ob := Ec301.keep Kc304
  have E304_oc := E301_oc.keep Kc304
  have Z304 : n0 ≤ T304.heap.size := Nat.le_trans Z301 Kc304.1
  have O304 := O301.keep Kc304 (allS g_oc (all0))
  have hq2_ : ¬ qq < (2 : Int32) := by rw [hq]; decide
  have hcc2 : (((0 : Int64) + (1 : Int64)) + (1 : Int64)).toInt = 2 := by decide
  obtain ⟨mc2, sc2, hAc2, ymc2, ysc2⟩ := st2 (Dy.i2d z2) ymc1 ysc1 (nb1 bz1) (nb1 bz2) hcc2
  have r306 : Steps p.tables e below S0 (T304.setTop (mkF m 281 #[.val (.int p1), .val (.long p2), .second, .val (.long p3), .second, .val (.long p4), .second, .val (.int sl), .val (.ref b1), .val (.ref b2), .val (.int mm), .val (.int kk), .val (.int nm), .val (.int qq), .val (.int x1), .val (.int x2), .val (.int y1), .val (.int y2), .val (.int z1), .val (.int z2), .val (.ref oa), .val (.ref ob), .val (.ref oc), .unset, .unset, .unset, .unset, .unset, .unset, .unset, .unset, .unset, .unset, .unset, .unset] [(.double (FP.i2d z2)), (.ref oc)])) := by
    refine r305.trans ?_
    show Steps p.tables e below (T304.setTop (mkF m 270 #[.val (.int p1), .val (.long p2), .second, .val (.long p3), .second, .val (.long p4), .second, .val (.int sl), .val (.ref b1), .val (.ref b2), .val (.int mm), .val (.int kk), .val (.int nm), .val (.int qq), .val (.int x1), .val (.int x2), .val (.int y1), .val (.int y2), .val (.int z1), .val (.int z2), .val (.ref oa), .val (.ref ob), .val (.ref oc), .unset, .unset, .unset, .unset, .unset, .unset, .unset, .unset, .unset, .unset, .unset, .unset] [])) _
    refine XS.iload X304.here hx rfl (hb hby at_270) rfl ?_
    refine XS.iconst X304.here hx rfl (hb hby at_272) ?_
    refine XS.icmpNo X304.here hx rfl (hb hby at_273) rfl (flt hq2_).1 ?_
    show Steps p.tables e below (T304.setTop (mkF m 276 #[.val (.int p1), .val (.long p2), .second, .val (.long p3), .second, .val (.long p4), .second, .val (.int sl), .val (.ref b1), .val (.ref b2), .val (.int mm), .val (.int kk), .val (.int nm), .val (.int qq), .val (.int x1), .val (.int x2), .val (.int y1), .val (.int y2), .val (.int z1), .val (.int z2), .val (.ref oa), .val (.ref ob), .val (.ref oc), .unset, .unset, .unset, .unset, .unset, .unset, .unset, .unset, .unset, .unset, .unset, .unset] [])) _
    refine XS.aload X304.here hx rfl (hb hby at_276) rfl rfl ?_
    refine XS.iload X304.here hx rfl (hb hby at_278) rfl ?_
    refine XS.i2dS X304.here hx rfl (hb hby at_280) rfl rfl ?_
    exact Steps.refl _
  obtain ⟨cq307, kq307, q307a, q307b, q307c⟩ := isOf hZ rfl Ec304
  obtain ⟨_, _, ⟨T307, L307, k307, n307⟩, -, X307, ⟨Lc307, hQ307, l307, y307, z307⟩, st307⟩ := X304.virtualBack hx (y := (⟨"org/rowfold/aggregate/Moments", "add", "(D)V"⟩ : MethodName)) (z := (⟨"org/rowfold/aggregate/Moments", "add", "(D)V"⟩ : MethodName)) hown (mvT hZ (hw _ (List.mem_of_getElem? (i := 45) rfl))) (mvT hZ (hw _ (List.mem_of_getElem? (i := 46) rfl))) (notFace_of_selects (args := #[]) (mvT hZ (hw _ (List.mem_of_getElem? (i := 48) rfl)))) (mvT hZ (hw _ (List.mem_of_getElem? (i := 48) rfl))) (mvT hZ (hw _ (List.mem_of_getElem? (i := 47) rfl))) (by decide) (backOf (W := 0) (rmA l Z a0 hw [] oc (FP.i2d z2) ((0 : Int64) + (1 : Int64)) mc1 sc1 mc2 sc2 T304.heap n0 Z304 Fc304 Fm304 Fs304 Ec304 g_oc hAc2) hZ (hw _ (List.mem_of_getElem? (i := 49) rfl)) (hw _ (List.mem_of_getElem? (i := 8) rfl)) (by decide) (by decide)) q307a q307c (g := (mkF m 281 #[.val (.int p1), .val (.long p2), .second, .val (.long p3), .second, .val (.long p4), .second, .val (.int sl), .val (.ref b1), .val (.ref b2), .val (.int mm), .val (.int kk), .val (.int nm), .val (.int qq), .val (.int x1), .val (.int x2), .val (.int y1), .val (.int y2), .val (.int z1), .val (.int z2), .val (.ref oa), .val (.ref ob), .val (.ref oc), .unset, .unset, .unset, .unset, .unset, .unset, .unset, .unset, .unset, .unset, .unset, .unset] [(.double (FP.i2d z2)), (.ref oc)])) rfl (by rw [hml]; rfl) (Steps.refl _) (argsL := [(.double (FP.i2d z2))]) (rest := []) (lenOf pd_0 rfl) rfl (by show 2 * 0 + _ ≤ _; exact Nat.le_of_eq rfl) (hb hby at_281) (fun _ _ => ⟨rfl, rfl, (by decide : (((5 + 0) + 0) + 0) + 0 ≤ _), (by decide : (((23 + 0) + 0) + 0) + 0 ≤ _)⟩)
  dsimp only [Pt.U, Pt.locs, Pt.cells, Pt.slots] at X307 l307 y307 z307 st307 hQ307
  subst l307 y307 z307
  obtain ⟨rfl, Nq307, Kc307, Ec307, Fc307, Fm307, Fs307⟩ := hQ307
  have N307 := Fr.app N304 Nq307
  have r308 : Steps p.tables e below S0 (T307.setTop (mkF m 284 #[.val (.int p1), .val (.long p2), .second, .val (.long p3), .second, .val (.long p4), .second, .val (.int sl), .val (.ref b1), .val (.ref b2), .val (.int mm), .val (.int kk), .val (.int nm), .val (.int qq), .val (.int x1), .val (.int x2), .val (.int y1), .val (.int y2), .val (.int z1), .val (.int z2), .val (.ref oa), .val (.ref ob), .val (.ref oc), .unset, .unset, .unset, .unset, .unset, .unset, .unset, .unset, .unset, .unset, .unset, .unset] [])) := r306.trans st307
  have F307_oa_count := F304_oa_count.keep Kc307 (ninS ne_ac nin0)
  have F307_oa_mean := F304_oa_mean.keep Kc307 (ninS ne_ac nin0)
  have F307_oa_squares := F304_oa_squares.keep Kc307 (ninS ne_ac nin0)
  have F307_ob_count := F304_ob_count.keep Kc307 (ninS ne_bc nin0)
  have F307_ob_mean := F304_ob_mean.keep Kc307 (ninS ne_bc nin0)
  have F307_ob_squares := F304_ob_squares.keep Kc307 (ninS ne_bc nin0)
  have E307_oa := E304_oa.keep Kc307
  have E307_ob := E304_ob.keep Kc307
  have E307_oc := Ec304.keep Kc307
  have Z307 : n0 ≤ T307.heap.size := Nat.le_trans Z304 Kc307.1
  have O307 := O304.keep Kc307 (allS g_oc (all0))
  obtain ⟨mr0, sr0, hCr0, ymr0, ysr0⟩ := c11 (c1 := ((0 : Int64) + (1 : Int64))) (c2 := ((0 : Int64) + (1 : Int64))) (t := ((0 : Int64) + (1 : Int64)) + ((0 : Int64) + (1 : Int64))) (by decide) (by decide) (by decide) yma1 ysa1 ymb1 ysb1 (nb1 bx1) (nb1 by1)
  have r309 : Steps p.tables e below S0 (T307.setTop (mkF m 288 #[.val (.int p1), .val (.long p2), .second, .val (.long p3), .second, .val (.long p4), .second, .val (.int sl), .val (.ref b1), .val (.ref b2), .val (.int mm), .val (.int kk), .val (.int nm), .val (.int qq), .val (.int x1), .val (.int x2), .val (.int y1), .val (.int y2), .val (.int z1), .val (.int z2), .val (.ref oa), .val (.ref ob), .val (.ref oc), .unset, .unset, .unset, .unset, .unset, .unset, .unset, .unset, .unset, .unset, .unset, .unset] [(.ref ob), (.ref oa)])) := by
    refine r308.trans ?_
    show Steps p.tables e below (T307.setTop (mkF m 284 #[.val (.int p1), .val (.long p2), .second, .val (.long p3), .second, .val (.long p4), .second, .val (.int sl), .val (.ref b1), .val (.ref b2), .val (.int mm), .val (.int kk), .val (.int nm), .val (.int qq), .val (.int x1), .val (.int x2), .val (.int y1), .val (.int y2), .val (.int z1), .val (.int z2), .val (.ref oa), .val (.ref ob), .val (.ref oc), .unset, .unset, .unset, .unset, .unset, .unset, .unset, .unset, .unset, .unset, .unset, .unset] [])) _
    refine XS.aload X307.here hx rfl (hb hby at_284) rfl rfl ?_
    refine XS.aload X307.here hx rfl (hb hby at_286) rfl rfl ?_
    exact Steps.refl _
  obtain ⟨cq310, kq310, q310a, q310b, q310c⟩ := isOf hZ rfl E307_oa
  obtain ⟨_, _, ⟨T310, L310, k310, n310⟩, -, X310, ⟨Lc310, hQ310, l310, y310, z310⟩, st310⟩ := X307.virtualBack hx (y := (⟨"org/rowfold/aggregate/Moments", "combine", "(Lorg/rowfold/aggregate/Moments;)Lorg/rowfold/aggregate/Moments;"⟩ : MethodName)) (z := (⟨"org/rowfold/aggregate/Moments", "combine", "(Lorg/rowfold/aggregate/Moments;)Lorg/rowfold/aggregate/Moments;"⟩ : MethodName)) hown (mvT hZ (hw _ (List.mem_of_getElem? (i := 15) rfl))) (mvT hZ (hw _ (List.mem_of_getElem? (i := 16) rfl))) (notFace_of_selects (args := #[]) (mvT hZ (hw _ (List.mem_of_getElem? (i := 18) rfl)))) (mvT hZ (hw _ (List.mem_of_getElem? (i := 18) rfl))) (mvT hZ (hw _ (List.mem_of_getElem? (i := 17) rfl))) (by decide) (backOf (W := 0) (rmC1 l Z a0 hw [] oa ob ((0 : Int64) + (1 : Int64)) ma1 sa1 ((0 : Int64) + (1 : Int64)) mb1 sb1 mr0 sr0 T307.heap n0 Z307 F307_oa_count F307_oa_mean F307_oa_squares F307_ob_count F307_ob_mean F307_ob_squares E307_oa g_oa ne_ab (by decide) hCr0) hZ (hw _ (List.mem_of_getElem? (i := 19) rfl)) (hw _ (List.mem_of_getElem? (i := 8) rfl)) (by decide) (by decide)) q310a q310c (g := (mkF m 288 #[.val (.int p1), .val (.long p2), .second, .val (.long p3), .second, .val (.long p4), .second, .val (.int sl), .val (.ref b1), .val (.ref b2), .val (.int mm), .val (.int kk), .val (.int nm), .val (.int qq), .val (.int x1), .val (.int x2), .val (.int y1), .val (.int y2), .val (.int z1), .val (.int z2), .val (.ref oa), .val (.ref ob), .val (.ref oc), .unset, .unset, .unset, .unset, .unset, .unset, .unset, .unset, .unset, .unset, .unset, .unset] [(.ref ob), (.ref oa)])) rfl (by rw [hml]; rfl) (Steps.refl _) (argsL := [(.ref ob)]) (rest := []) (lenOf pd_5 rfl) rfl (by show 2 * 0 + _ ≤ _; exact Nat.le_of_eq rfl) (hb hby at_288) (fun _ _ => ⟨rfl, rfl, (by decide : ((((5 + 0) + 0) + 0) + 0) + 0 ≤ _), (by decide : ((((23 + 0) + 0) + 0) + 0) + 0 ≤ _)⟩)
  dsimp only [Pt.U, Pt.locs, Pt.cells, Pt.slots] at X310 l310 y310 z310 st310 hQ310
  subst l310 y310 z310
  obtain ⟨rfl, Nq310, Kc310, Ec310, Fc310, Fm310, Fs310⟩ := hQ310
  have N310 := Fr.app N307 Nq310
  have r311 : Steps p.tables e below S0 (T310.setTop (mkF m 291 #[.val (.int p1), .val (.long p2), .second, .val (.long p3), .second, .val (.long p4), .second, .val (.int sl), .val (.ref b1), .val (.ref b2), .val (.int mm), .val (.int kk), .val (.int nm), .val (.int qq), .val (.int x1), .val (.int x2), .val (.int y1), .val (.int y2), .val (.int z1), .val (.int z2), .val (.ref oa), .val (.ref ob), .val (.ref oc), .unset, .unset, .unset, .unset, .unset, .unset, .unset, .unset, .unset, .unset, .unset, .unset] [(.ref oa)])) := r309.trans st310
  have F310_ob_count := F307_ob_count.keep Kc310 (ninS (Ne.symm ne_ab) nin0)
  have F310_ob_mean := F307_ob_mean.keep Kc310 (ninS (Ne.symm ne_ab) nin0)
  have F310_ob_squares := F307_ob_squares.keep Kc310 (ninS (Ne.symm ne_ab) nin0)
  have F310_oc_count := Fc307.keep Kc310 (ninS (Ne.symm ne_ac) nin0)
  have F310_oc_mean := Fm307.keep Kc310 (ninS (Ne.symm ne_ac) nin0)
  have F310_oc_squares := Fs307.keep Kc310 (ninS (Ne.symm ne_ac) nin0)
  have E310_oa := E307_oa.keep Kc310
  have E310_ob := E307_ob.keep Kc310
  have E310_oc := Ec307.keep Kc310
  have Z310 : n0 ≤ T310.heap.size := Nat.le_trans Z307 Kc310.1
  have O310 := O307.keep Kc310 (allS g_oa (all0))
  obtain ⟨mr1, sr1, hCr1, ysr1⟩ := c22 (c1 := (((0 : Int64) + (1 : Int64)) + ((0 : Int64) + (1 : Int64)))) (c2 := (((0 : Int64) + (1 : Int64)) + (1 : Int64))) (t := (((0 : Int64) + (1 : Int64)) + ((0 : Int64) + (1 : Int64))) + (((0 : Int64) + (1 : Int64)) + (1 : Int64))) (by decide) (by decide) (by decide) ymr0 ysr0 ymc2 ysc2 (nb2 bx1 by1) (nb2 bz1 bz2) (sq_le (nb3 bx1 by1)) (sq_le (nb3 bz1 bz2))
  have r312 : Steps p.tables e below S0 (T310.setTop (mkF m 306 #[.val (.int p1), .val (.long p2), .second, .val (.long p3), .second, .val (.long p4), .second, .val (.int sl), .val (.ref b1), .val (.ref b2), .val (.int mm), .val (.int kk), .val (.int nm), .val (.int qq), .val (.int x1), .val (.int x2), .val (.int y1), .val (.int y2), .val (.int z1), .val (.int z2), .val (.ref oa), .val (.ref ob), .val (.ref oc), .val (.ref oa), .unset, .unset, .unset, .unset, .unset, .unset, .unset, .unset, .unset, .unset, .unset] [(.ref oc), (.ref oa)])) := by
    refine r311.trans ?_
    show Steps p.tables e below (T310.setTop (mkF m 291 #[.val (.int p1), .val (.long p2), .second, .val (.long p3), .second, .val (.long p4), .second, .val (.int sl), .val (.ref b1), .val (.ref b2), .val (.int mm), .val (.int kk), .val (.int nm), .val (.int qq), .val (.int x1), .val (.int x2), .val (.int y1), .val (.int y2), .val (.int z1), .val (.int z2), .val (.ref oa), .val (.ref ob), .val (.ref oc), .unset, .unset, .unset, .unset, .unset, .unset, .unset, .unset, .unset, .unset, .unset, .unset] [(.ref oa)])) _
    refine XS.astore X310.here hx rfl (hb hby at_291) rfl rfl (l' := #[.val (.int p1), .val (.long p2), .second, .val (.long p3), .second, .val (.long p4), .second, .val (.int sl), .val (.ref b1), .val (.ref b2), .val (.int mm), .val (.int kk), .val (.int nm), .val (.int qq), .val (.int x1), .val (.int x2), .val (.int y1), .val (.int y2), .val (.int z1), .val (.int z2), .val (.ref oa), .val (.ref ob), .val (.ref oc), .val (.ref oa), .unset, .unset, .unset, .unset, .unset, .unset, .unset, .unset, .unset, .unset, .unset]) rfl ?_
    refine XS.aload X310.here hx rfl (hb hby at_293) rfl rfl ?_
    refine XS.aload X310.here hx rfl (hb hby at_295) rfl rfl ?_
    show Steps p.tables e below (T310.setTop (mkF m 297 #[.val (.int p1), .val (.long p2), .second, .val (.long p3), .second, .val (.long p4), .second, .val (.int sl), .val (.ref b1), .val (.ref b2), .val (.int mm), .val (.int kk), .val (.int nm), .val (.int qq), .val (.int x1), .val (.int x2), .val (.int y1), .val (.int y2), .val (.int z1), .val (.int z2), .val (.ref oa), .val (.ref ob), .val (.ref oc), .val (.ref oa), .unset, .unset, .unset, .unset, .unset, .unset, .unset, .unset, .unset, .unset, .unset] [(.ref oa), (.ref oa)])) _
    refine Jvm.RoadKit.acmp (g := (mkF m 297 #[.val (.int p1), .val (.long p2), .second, .val (.long p3), .second, .val (.long p4), .second, .val (.int sl), .val (.ref b1), .val (.ref b2), .val (.int mm), .val (.int kk), .val (.int nm), .val (.int qq), .val (.int x1), .val (.int x2), .val (.int y1), .val (.int y2), .val (.int z1), .val (.int z2), .val (.ref oa), .val (.ref ob), .val (.ref oc), .val (.ref oa), .unset, .unset, .unset, .unset, .unset, .unset, .unset, .unset, .unset, .unset, .unset] [(.ref oa), (.ref oa)])) X310 hx rfl rfl rfl (pc0 := 297) (pc' := 302) (same := true) rfl (hb hby at_297) rfl (decide_eq_true rfl) (by decide) (by decide) ?_
    refine XS.aload X310.here hx rfl (hb hby at_302) rfl rfl ?_
    refine XS.aload X310.here hx rfl (hb hby at_304) rfl rfl ?_
    exact Steps.refl _
  obtain ⟨cq313, kq313, q313a, q313b, q313c⟩ := isOf hZ rfl Ec310
  obtain ⟨_, _, ⟨T313, L313, k313, n313⟩, -, X313, ⟨Lc313, hQ313, l313, y313, z313⟩, st313⟩ := X310.virtualBack hx (y := (⟨"org/rowfold/aggregate/Moments", "combine", "(Lorg/rowfold/aggregate/Moments;)Lorg/rowfold/aggregate/Moments;"⟩ : MethodName)) (z := (⟨"org/rowfold/aggregate/Moments", "combine", "(Lorg/rowfold/aggregate/Moments;)Lorg/rowfold/aggregate/Moments;"⟩ : MethodName)) hown (mvT hZ (hw _ (List.mem_of_getElem? (i := 15) rfl))) (mvT hZ (hw _ (List.mem_of_getElem? (i := 16) rfl))) (notFace_of_selects (args := #[]) (mvT hZ (hw _ (List.mem_of_getElem? (i := 18) rfl)))) (mvT hZ (hw _ (List.mem_of_getElem? (i := 18) rfl))) (mvT hZ (hw _ (List.mem_of_getElem? (i := 17) rfl))) (by decide) (backOf (W := 0) (rmC1 l Z a0 hw [] oa oc (((0 : Int64) + (1 : Int64)) + ((0 : Int64) + (1 : Int64))) mr0 sr0 (((0 : Int64) + (1 : Int64)) + (1 : Int64)) mc2 sc2 mr1 sr1 T310.heap n0 Z310 Fc310 Fm310 Fs310 F310_oc_count F310_oc_mean F310_oc_squares Ec310 g_oa ne_ac (by decide) hCr1) hZ (hw _ (List.mem_of_getElem? (i := 19) rfl)) (hw _ (List.mem_of_getElem? (i := 8) rfl)) (by decide) (by decide)) q313a q313c (g := (mkF m 306 #[.val (.int p1), .val (.long p2), .second, .val (.long p3), .second, .val (.long p4), .second, .val (.int sl), .val (.ref b1), .val (.ref b2), .val (.int mm), .val (.int kk), .val (.int nm), .val (.int qq), .val (.int x1), .val (.int x2), .val (.int y1), .val (.int y2), .val (.int z1), .val (.int z2), .val (.ref oa), .val (.ref ob), .val (.ref oc), .val (.ref oa), .unset, .unset, .unset, .unset, .unset, .unset, .unset, .unset, .unset, .unset, .unset] [(.ref oc), (.ref oa)])) rfl (by rw [hml]; rfl) (Steps.refl _) (argsL := [(.ref oc)]) (rest := []) (lenOf pd_5 rfl) rfl (by show 2 * 0 + _ ≤ _; exact Nat.le_of_eq rfl) (hb hby at_306) (fun _ _ => ⟨rfl, rfl, (by decide : (((((5 + 0) + 0) + 0) + 0) + 0) + 0 ≤ _), (by decide : (((((23 + 0) + 0) + 0) + 0) + 0) + 0 ≤ _)⟩)
  dsimp only [Pt.U, Pt.locs, Pt.cells, Pt.slots] at X313 l313 y313 z313 st313 hQ313
  subst l313 y313 z313
  obtain ⟨rfl, Nq313, Kc313, Ec313, Fc313, Fm313, Fs313⟩ := hQ313
  have N313 := Fr.app N310 Nq313
  have r314 : Steps p.tables e below S0 (T313.setTop (mkF m 309 #[.val (.int p1), .val (.long p2), .second, .val (.long p3), .second, .val (.long p4), .second, .val (.int sl), .val (.ref b1), .val (.ref b2), .val (.int mm), .val (.int kk), .val (.int nm), .val (.int qq), .val (.int x1), .val (.int x2), .val (.int y1), .val (.int y2), .val (.int z1), .val (.int z2), .val (.ref oa), .val (.ref ob), .val (.ref oc), .val (.ref oa), .unset, .unset, .unset, .unset, .unset, .unset, .unset, .unset, .unset, .unset, .unset] [(.ref oa)])) := r312.trans st313
  have F313_ob_count := F310_ob_count.keep Kc313 (ninS (Ne.symm ne_ab) nin0)
  have F313_ob_mean := F310_ob_mean.keep Kc313 (ninS (Ne.symm ne_ab) nin0)
  have F313_ob_squares := F310_ob_squares.keep Kc313 (ninS (Ne.symm ne_ab) nin0)
  have F313_oc_count := F310_oc_count.keep Kc313 (ninS (Ne.symm ne_ac) nin0)
  have F313_oc_mean := F310_oc_mean.keep Kc313 (ninS (Ne.symm ne_ac) nin0)
  have F313_oc_squares := F310_oc_squares.keep Kc313 (ninS (Ne.symm ne_ac) nin0)
  have E313_oa := Ec310.keep Kc313
  have E313_ob := E310_ob.keep Kc313
  have E313_oc := E310_oc.keep Kc313
  have Z313 : n0 ≤ T313.heap.size := Nat.le_trans Z310 Kc313.1
  have O313 := O310.keep Kc313 (allS g_oa (all0))
  have r315 : Steps p.tables e below S0 (T313.setTop (mkF m 320 #[.val (.int p1), .val (.long p2), .second, .val (.long p3), .second, .val (.long p4), .second, .val (.int sl), .val (.ref b1), .val (.ref b2), .val (.int mm), .val (.int kk), .val (.int nm), .val (.int qq), .val (.int x1), .val (.int x2), .val (.int y1), .val (.int y2), .val (.int z1), .val (.int z2), .val (.ref oa), .val (.ref ob), .val (.ref oc), .val (.ref oa), .val (.ref oa), .unset, .unset, .unset, .unset, .unset, .unset, .unset, .unset, .unset, .unset] [])) := by
    refine r314.trans ?_
    show Steps p.tables e below (T313.setTop (mkF m 309 #[.val (.int p1), .val (.long p2), .second, .val (.long p3), .second, .val (.long p4), .second, .val (.int sl), .val (.ref b1), .val (.ref b2), .val (.int mm), .val (.int kk), .val (.int nm), .val (.int qq), .val (.int x1), .val (.int x2), .val (.int y1), .val (.int y2), .val (.int z1), .val (.int z2), .val (.ref oa), .val (.ref ob), .val (.ref oc), .val (.ref oa), .unset, .unset, .unset, .unset, .unset, .unset, .unset, .unset, .unset, .unset, .unset] [(.ref oa)])) _
    refine XS.astore X313.here hx rfl (hb hby at_309) rfl rfl (l' := #[.val (.int p1), .val (.long p2), .second, .val (.long p3), .second, .val (.long p4), .second, .val (.int sl), .val (.ref b1), .val (.ref b2), .val (.int mm), .val (.int kk), .val (.int nm), .val (.int qq), .val (.int x1), .val (.int x2), .val (.int y1), .val (.int y2), .val (.int z1), .val (.int z2), .val (.ref oa), .val (.ref ob), .val (.ref oc), .val (.ref oa), .val (.ref oa), .unset, .unset, .unset, .unset, .unset, .unset, .unset, .unset, .unset, .unset]) rfl ?_
    refine XS.aload X313.here hx rfl (hb hby at_311) rfl rfl ?_
    refine XS.aload X313.here hx rfl (hb hby at_313) rfl rfl ?_
    show Steps p.tables e below (T313.setTop (mkF m 315 #[.val (.int p1), .val (.long p2), .second, .val (.long p3), .second, .val (.long p4), .second, .val (.int sl), .val (.ref b1), .val (.ref b2), .val (.int mm), .val (.int kk), .val (.int nm), .val (.int qq), .val (.int x1), .val (.int x2), .val (.int y1), .val (.int y2), .val (.int z1), .val (.int z2), .val (.ref oa), .val (.ref ob), .val (.ref oc), .val (.ref oa), .val (.ref oa), .unset, .unset, .unset, .unset, .unset, .unset, .unset, .unset, .unset, .unset] [(.ref oa), (.ref oa)])) _
    refine Jvm.RoadKit.acmp (g := (mkF m 315 #[.val (.int p1), .val (.long p2), .second, .val (.long p3), .second, .val (.long p4), .second, .val (.int sl), .val (.ref b1), .val (.ref b2), .val (.int mm), .val (.int kk), .val (.int nm), .val (.int qq), .val (.int x1), .val (.int x2), .val (.int y1), .val (.int y2), .val (.int z1), .val (.int z2), .val (.ref oa), .val (.ref ob), .val (.ref oc), .val (.ref oa), .val (.ref oa), .unset, .unset, .unset, .unset, .unset, .unset, .unset, .unset, .unset, .unset] [(.ref oa), (.ref oa)])) X313 hx rfl rfl rfl (pc0 := 315) (pc' := 320) (same := true) rfl (hb hby at_315) rfl (decide_eq_true rfl) (by decide) (by decide) ?_
    exact Steps.refl _
  have htot : nm + qq = 4 := by rw [hn, hq]; decide
  have hid := id4 x1.toInt y1.toInt z1.toInt z2.toInt
  have hW : _ = 4 * SQ - SX * SX := hid.trans (by rw [hSQ, hSX, B0_, B1_, B2_, B3_, B4_, B5_]; simp only [Int.mul_zero, Int.zero_add, Int.add_zero, Int.add_assoc])
  exact ⟨T313, T313.heap, _, ((((0 : Int64) + (1 : Int64)) + ((0 : Int64) + (1 : Int64))) + (((0 : Int64) + (1 : Int64)) + (1 : Int64))), sr1, X313, rfl, N313, O313, Z313, Ec313, Fc313, Fs313, Or.inr (Or.inr ⟨by decide, htot, ysr1.cast hW rfl⟩), r315⟩
set_option maxRecDepth 65536 in
set_option maxHeartbeats 40000000 in
theorem sgB6 {p : Program} {e : Env} {s : State} {m : MethodId} {below : List Frame} {meth : Method} {c : Code} (l : Launch) (Z : State) (a0 : Array Value) (hw : ∀ d ∈ tables_1, d.before a0 Z = true) (p1 : Int32) (p2 p3 p4 : Int64) (hx : p.tables.exec = Jvm.exec) (hby : c.code = code) (hml : c.maxLocals = 35) (hown : s.vm.findClass "org/rowfold/aggregate/MomentsCombinePinLaw" = some m.cls) (hZ : Z.Warmed39 s.vm) (b1 : Addr) (b2 : Addr) (sl : Int32) (mm : Int32) (kk : Int32) (nm : Int32) (qq : Int32) (x1 : Int32) (x2 : Int32) (y1 : Int32) (y2 : Int32) (z1 : Int32) (z2 : Int32) (oa : Addr) (ob : Addr) (oc : Addr) (B0 : Int) (B1 : Int) (B2 : Int) (B3 : Int) (B4 : Int) (B5 : Int) (SX : Int) (SQ : Int) (S0 T0 : State) (h0 : Heap) (L0 : List Loc) (n0 : Nat) (X0 : Stand p l e room_1 s m #[(.int p1), (.long p2), (.long p3), (.long p4)] below meth c T0 L0 5 23) (e0 : T0.heap = h0) (N0 : Fr n0 L0) (O0 : Old Z n0 h0) (Z0 : n0 ≤ h0.size) (bx1 : x1.toInt.natAbs ≤ 1048576) (bx2 : x2.toInt.natAbs ≤ 1048576) (by1 : y1.toInt.natAbs ≤ 1048576) (by2 : y2.toInt.natAbs ≤ 1048576) (bz1 : z1.toInt.natAbs ≤ 1048576) (bz2 : z2.toInt.natAbs ≤ 1048576) (g_oa : n0 ≤ oa) (g_ob : n0 ≤ ob) (g_oc : n0 ≤ oc) (ne_ab : oa ≠ ob) (ne_ac : oa ≠ oc) (ne_bc : ob ≠ oc) (E_oa : Exa Z h0 oa "org/rowfold/aggregate/Moments") (E_ob : Exa Z h0 ob "org/rowfold/aggregate/Moments") (E_oc : Exa Z h0 oc "org/rowfold/aggregate/Moments") (F_oa_count : Fld Z h0 oa "org/rowfold/aggregate/Moments" "count" "J" (.long (0 : Int64))) (F_oa_mean : Fld Z h0 oa "org/rowfold/aggregate/Moments" "mean" "D" (.double (0 : UInt64))) (F_oa_squares : Fld Z h0 oa "org/rowfold/aggregate/Moments" "squares" "D" (.double (0 : UInt64))) (F_ob_count : Fld Z h0 ob "org/rowfold/aggregate/Moments" "count" "J" (.long (0 : Int64))) (F_ob_mean : Fld Z h0 ob "org/rowfold/aggregate/Moments" "mean" "D" (.double (0 : UInt64))) (F_ob_squares : Fld Z h0 ob "org/rowfold/aggregate/Moments" "squares" "D" (.double (0 : UInt64))) (F_oc_count : Fld Z h0 oc "org/rowfold/aggregate/Moments" "count" "J" (.long (0 : Int64))) (F_oc_mean : Fld Z h0 oc "org/rowfold/aggregate/Moments" "mean" "D" (.double (0 : UInt64))) (F_oc_squares : Fld Z h0 oc "org/rowfold/aggregate/Moments" "squares" "D" (.double (0 : UInt64))) (hB0 : B0 = (if mm < (1 : Int32) then 0 else x1.toInt)) (hB1 : B1 = (if mm < (2 : Int32) then 0 else x2.toInt)) (hB2 : B2 = (if kk < (1 : Int32) then 0 else y1.toInt)) (hB3 : B3 = (if kk < (2 : Int32) then 0 else y2.toInt)) (hB4 : B4 = (if qq < (1 : Int32) then 0 else z1.toInt)) (hB5 : B5 = (if qq < (2 : Int32) then 0 else z2.toInt)) (hSX : SX = B0 + B1 + B2 + B3 + B4 + B5) (hSQ : SQ = B0 * B0 + B1 * B1 + B2 * B2 + B3 * B3 + B4 * B4 + B5 * B5) (hm : mm = 2) (hk : kk = 2) (hn : nm = 4) (hqq : ((nm = 1 ∧ qq = 1) ∨ (nm = 2 ∧ qq = 2) ∨ (¬ nm = 1 ∧ ¬ nm = 2 ∧ qq = 0))) (r0 : Steps p.tables e below S0 (T0.setTop (mkF m 203 #[.val (.int p1), .val (.long p2), .second, .val (.long p3), .second, .val (.long p4), .second, .val (.int sl), .val (.ref b1), .val (.ref b2), .val (.int mm), .val (.int kk), .val (.int nm), .val (.int qq), .val (.int x1), .val (.int x2), .val (.int y1), .val (.int y2), .val (.int z1), .val (.int z2), .val (.ref oa), .val (.ref ob), .val (.ref oc), .unset, .unset, .unset, .unset, .unset, .unset, .unset, .unset, .unset, .unset, .unset, .unset] [(.int (1 : Int32)), (.int mm)]))) :
    ∃ (T' : State) (h' : Heap) (L' : List Loc) (cn : Int64) (sq : UInt64), Stand p l e room_1 s m #[(.int p1), (.long p2), (.long p3), (.long p4)] below meth c T' L' 5 23 ∧ T'.heap = h' ∧ Fr n0 L' ∧ Old Z n0 h' ∧ n0 ≤ h'.size ∧ Exa Z h' oa "org/rowfold/aggregate/Moments" ∧ Fld Z h' oa "org/rowfold/aggregate/Moments" "count" "J" (.long cn) ∧ Fld Z h' oa "org/rowfold/aggregate/Moments" "squares" "D" (.double sq) ∧ ((cn.toInt = 0 ∧ nm + qq = 0) ∨ (cn.toInt = 2 ∧ nm + qq = 2 ∧ Dy (2 * SQ - SX * SX) 1 sq) ∨ (cn.toInt = 4 ∧ nm + qq = 4 ∧ Dy (4 * SQ - SX * SX) 2 sq)) ∧ Steps p.tables e below S0 (T'.setTop (mkF m 320 #[.val (.int p1), .val (.long p2), .second, .val (.long p3), .second, .val (.long p4), .second, .val (.int sl), .val (.ref b1), .val (.ref b2), .val (.int mm), .val (.int kk), .val (.int nm), .val (.int qq), .val (.int x1), .val (.int x2), .val (.int y1), .val (.int y2), .val (.int z1), .val (.int z2), .val (.ref oa), .val (.ref ob), .val (.ref oc), .val (.ref oa), .val (.ref oa), .unset, .unset, .unset, .unset, .unset, .unset, .unset, .unset, .unset, .unset] [])) := by
  have hq : qq = 0 := by
    rcases hqq with ⟨z1_, z2_⟩ | ⟨z1_, z2_⟩ | ⟨z1_, z2_, z3_⟩
    · first | exact z2_ | exact absurd (hn.symm.trans z1_) (by decide)
    · first | exact z2_ | exact absurd (hn.symm.trans z1_) (by decide)
    · first | exact z3_ | exact absurd hn z1_ | exact absurd hn z2_
  have B0_ : B0 = x1.toInt := by rw [hB0, hm]; exact if_neg (by decide)
  have B1_ : B1 = x2.toInt := by rw [hB1, hm]; exact if_neg (by decide)
  have B2_ : B2 = y1.toInt := by rw [hB2, hk]; exact if_neg (by decide)
  have B3_ : B3 = y2.toInt := by rw [hB3, hk]; exact if_neg (by decide)
  have B4_ : B4 = 0 := by rw [hB4, hq]; exact if_pos (by decide)
  have B5_ : B5 = 0 := by rw [hB5, hq]; exact if_pos (by decide)
  have hm1_ : ¬ mm < (1 : Int32) := by rw [hm]; decide
  have hca1 : ((0 : Int64) + (1 : Int64)).toInt = 1 := by decide
  obtain ⟨ma1, sa1, hAa1, yma1, ysa1⟩ := st1 (Dy.i2d x1) (nb1 bx1) hca1
  have r316 : Steps p.tables e below S0 (T0.setTop (mkF m 211 #[.val (.int p1), .val (.long p2), .second, .val (.long p3), .second, .val (.long p4), .second, .val (.int sl), .val (.ref b1), .val (.ref b2), .val (.int mm), .val (.int kk), .val (.int nm), .val (.int qq), .val (.int x1), .val (.int x2), .val (.int y1), .val (.int y2), .val (.int z1), .val (.int z2), .val (.ref oa), .val (.ref ob), .val (.ref oc), .unset, .unset, .unset, .unset, .unset, .unset, .unset, .unset, .unset, .unset, .unset, .unset] [(.double (FP.i2d x1)), (.ref oa)])) := by
    refine r0.trans ?_
    show Steps p.tables e below (T0.setTop (mkF m 203 #[.val (.int p1), .val (.long p2), .second, .val (.long p3), .second, .val (.long p4), .second, .val (.int sl), .val (.ref b1), .val (.ref b2), .val (.int mm), .val (.int kk), .val (.int nm), .val (.int qq), .val (.int x1), .val (.int x2), .val (.int y1), .val (.int y2), .val (.int z1), .val (.int z2), .val (.ref oa), .val (.ref ob), .val (.ref oc), .unset, .unset, .unset, .unset, .unset, .unset, .unset, .unset, .unset, .unset, .unset, .unset] [(.int (1 : Int32)), (.int mm)])) _
    refine XS.icmpNo X0.here hx rfl (hb hby at_203) rfl (flt hm1_).1 ?_
    refine XS.aload X0.here hx rfl (hb hby at_206) rfl rfl ?_
    refine XS.iload X0.here hx rfl (hb hby at_208) rfl ?_
    show Steps p.tables e below (T0.setTop (mkF m 210 #[.val (.int p1), .val (.long p2), .second, .val (.long p3), .second, .val (.long p4), .second, .val (.int sl), .val (.ref b1), .val (.ref b2), .val (.int mm), .val (.int kk), .val (.int nm), .val (.int qq), .val (.int x1), .val (.int x2), .val (.int y1), .val (.int y2), .val (.int z1), .val (.int z2), .val (.ref oa), .val (.ref ob), .val (.ref oc), .unset, .unset, .unset, .unset, .unset, .unset, .unset, .unset, .unset, .unset, .unset, .unset] [(.int x1), (.ref oa)])) _
    refine XS.i2dS X0.here hx rfl (hb hby at_210) rfl rfl ?_
    exact Steps.refl _
  obtain ⟨cq317, kq317, q317a, q317b, q317c⟩ := isOf hZ e0 E_oa
  obtain ⟨_, _, ⟨T317, L317, k317, n317⟩, -, X317, ⟨Lc317, hQ317, l317, y317, z317⟩, st317⟩ := X0.virtualBack hx (y := (⟨"org/rowfold/aggregate/Moments", "add", "(D)V"⟩ : MethodName)) (z := (⟨"org/rowfold/aggregate/Moments", "add", "(D)V"⟩ : MethodName)) hown (mvT hZ (hw _ (List.mem_of_getElem? (i := 45) rfl))) (mvT hZ (hw _ (List.mem_of_getElem? (i := 46) rfl))) (notFace_of_selects (args := #[]) (mvT hZ (hw _ (List.mem_of_getElem? (i := 48) rfl)))) (mvT hZ (hw _ (List.mem_of_getElem? (i := 48) rfl))) (mvT hZ (hw _ (List.mem_of_getElem? (i := 47) rfl))) (by decide) (backOf (W := 0) (rmA l Z a0 hw [] oa (FP.i2d x1) (0 : Int64) (0 : UInt64) (0 : UInt64) ma1 sa1 h0 n0 Z0 F_oa_count F_oa_mean F_oa_squares E_oa g_oa hAa1) hZ (hw _ (List.mem_of_getElem? (i := 49) rfl)) (hw _ (List.mem_of_getElem? (i := 8) rfl)) (by decide) (by decide)) q317a q317c (g := (mkF m 211 #[.val (.int p1), .val (.long p2), .second, .val (.long p3), .second, .val (.long p4), .second, .val (.int sl), .val (.ref b1), .val (.ref b2), .val (.int mm), .val (.int kk), .val (.int nm), .val (.int qq), .val (.int x1), .val (.int x2), .val (.int y1), .val (.int y2), .val (.int z1), .val (.int z2), .val (.ref oa), .val (.ref ob), .val (.ref oc), .unset, .unset, .unset, .unset, .unset, .unset, .unset, .unset, .unset, .unset, .unset, .unset] [(.double (FP.i2d x1)), (.ref oa)])) rfl (by rw [hml]; rfl) (Steps.refl _) (argsL := [(.double (FP.i2d x1))]) (rest := []) (lenOf pd_0 rfl) rfl (by show 2 * 0 + _ ≤ _; exact Nat.le_of_eq rfl) (hb hby at_211) (fun _ _ => ⟨rfl, e0, (by decide : 5 + 0 ≤ _), (by decide : 23 + 0 ≤ _)⟩)
  dsimp only [Pt.U, Pt.locs, Pt.cells, Pt.slots] at X317 l317 y317 z317 st317 hQ317
  subst l317 y317 z317
  obtain ⟨rfl, Nq317, Kc317, Ec317, Fc317, Fm317, Fs317⟩ := hQ317
  have N317 := Fr.app N0 Nq317
  have r318 : Steps p.tables e below S0 (T317.setTop (mkF m 214 #[.val (.int p1), .val (.long p2), .second, .val (.long p3), .second, .val (.long p4), .second, .val (.int sl), .val (.ref b1), .val (.ref b2), .val (.int mm), .val (.int kk), .val (.int nm), .val (.int qq), .val (.int x1), .val (.int x2), .val (.int y1), .val (.int y2), .val (.int z1), .val (.int z2), .val (.ref oa), .val (.ref ob), .val (.ref oc), .unset, .unset, .unset, .unset, .unset, .unset, .unset, .unset, .unset, .unset, .unset, .unset] [])) := r316.trans st317
  have F317_ob_count := F_ob_count.keep Kc317 (ninS (Ne.symm ne_ab) nin0)
  have F317_ob_mean := F_ob_mean.keep Kc317 (ninS (Ne.symm ne_ab) nin0)
  have F317_ob_squares := F_ob_squares.keep Kc317 (ninS (Ne.symm ne_ab) nin0)
  have F317_oc_count := F_oc_count.keep Kc317 (ninS (Ne.symm ne_ac) nin0)
  have F317_oc_mean := F_oc_mean.keep Kc317 (ninS (Ne.symm ne_ac) nin0)
  have F317_oc_squares := F_oc_squares.keep Kc317 (ninS (Ne.symm ne_ac) nin0)
  have E317_oa := E_oa.keep Kc317
  have E317_ob := E_ob.keep Kc317
  have E317_oc := E_oc.keep Kc317
  have Z317 : n0 ≤ T317.heap.size := Nat.le_trans Z0 Kc317.1
  have O317 := O0.keep Kc317 (allS g_oa (all0))
  have hm2_ : ¬ mm < (2 : Int32) := by rw [hm]; decide
  have hca2 : (((0 : Int64) + (1 : Int64)) + (1 : Int64)).toInt = 2 := by decide
  obtain ⟨ma2, sa2, hAa2, yma2, ysa2⟩ := st2 (Dy.i2d x2) yma1 ysa1 (nb1 bx1) (nb1 bx2) hca2
  have r319 : Steps p.tables e below S0 (T317.setTop (mkF m 225 #[.val (.int p1), .val (.long p2), .second, .val (.long p3), .second, .val (.long p4), .second, .val (.int sl), .val (.ref b1), .val (.ref b2), .val (.int mm), .val (.int kk), .val (.int nm), .val (.int qq), .val (.int x1), .val (.int x2), .val (.int y1), .val (.int y2), .val (.int z1), .val (.int z2), .val (.ref oa), .val (.ref ob), .val (.ref oc), .unset, .unset, .unset, .unset, .unset, .unset, .unset, .unset, .unset, .unset, .unset, .unset] [(.double (FP.i2d x2)), (.ref oa)])) := by
    refine r318.trans ?_
    show Steps p.tables e below (T317.setTop (mkF m 214 #[.val (.int p1), .val (.long p2), .second, .val (.long p3), .second, .val (.long p4), .second, .val (.int sl), .val (.ref b1), .val (.ref b2), .val (.int mm), .val (.int kk), .val (.int nm), .val (.int qq), .val (.int x1), .val (.int x2), .val (.int y1), .val (.int y2), .val (.int z1), .val (.int z2), .val (.ref oa), .val (.ref ob), .val (.ref oc), .unset, .unset, .unset, .unset, .unset, .unset, .unset, .unset, .unset, .unset, .unset, .unset] [])) _
    refine XS.iload X317.here hx rfl (hb hby at_214) rfl ?_
    refine XS.iconst X317.here hx rfl (hb hby at_216) ?_
    refine XS.icmpNo X317.here hx rfl (hb hby at_217) rfl (flt hm2_).1 ?_
    show Steps p.tables e below (T317.setTop (mkF m 220 #[.val (.int p1), .val (.long p2), .second, .val (.long p3), .second, .val (.long p4), .second, .val (.int sl), .val (.ref b1), .val (.ref b2), .val (.int mm), .val (.int kk), .val (.int nm), .val (.int qq), .val (.int x1), .val (.int x2), .val (.int y1), .val (.int y2), .val (.int z1), .val (.int z2), .val (.ref oa), .val (.ref ob), .val (.ref oc), .unset, .unset, .unset, .unset, .unset, .unset, .unset, .unset, .unset, .unset, .unset, .unset] [])) _
    refine XS.aload X317.here hx rfl (hb hby at_220) rfl rfl ?_
    refine XS.iload X317.here hx rfl (hb hby at_222) rfl ?_
    refine XS.i2dS X317.here hx rfl (hb hby at_224) rfl rfl ?_
    exact Steps.refl _
  obtain ⟨cq320, kq320, q320a, q320b, q320c⟩ := isOf hZ rfl Ec317
  obtain ⟨_, _, ⟨T320, L320, k320, n320⟩, -, X320, ⟨Lc320, hQ320, l320, y320, z320⟩, st320⟩ := X317.virtualBack hx (y := (⟨"org/rowfold/aggregate/Moments", "add", "(D)V"⟩ : MethodName)) (z := (⟨"org/rowfold/aggregate/Moments", "add", "(D)V"⟩ : MethodName)) hown (mvT hZ (hw _ (List.mem_of_getElem? (i := 45) rfl))) (mvT hZ (hw _ (List.mem_of_getElem? (i := 46) rfl))) (notFace_of_selects (args := #[]) (mvT hZ (hw _ (List.mem_of_getElem? (i := 48) rfl)))) (mvT hZ (hw _ (List.mem_of_getElem? (i := 48) rfl))) (mvT hZ (hw _ (List.mem_of_getElem? (i := 47) rfl))) (by decide) (backOf (W := 0) (rmA l Z a0 hw [] oa (FP.i2d x2) ((0 : Int64) + (1 : Int64)) ma1 sa1 ma2 sa2 T317.heap n0 Z317 Fc317 Fm317 Fs317 Ec317 g_oa hAa2) hZ (hw _ (List.mem_of_getElem? (i := 49) rfl)) (hw _ (List.mem_of_getElem? (i := 8) rfl)) (by decide) (by decide)) q320a q320c (g := (mkF m 225 #[.val (.int p1), .val (.long p2), .second, .val (.long p3), .second, .val (.long p4), .second, .val (.int sl), .val (.ref b1), .val (.ref b2), .val (.int mm), .val (.int kk), .val (.int nm), .val (.int qq), .val (.int x1), .val (.int x2), .val (.int y1), .val (.int y2), .val (.int z1), .val (.int z2), .val (.ref oa), .val (.ref ob), .val (.ref oc), .unset, .unset, .unset, .unset, .unset, .unset, .unset, .unset, .unset, .unset, .unset, .unset] [(.double (FP.i2d x2)), (.ref oa)])) rfl (by rw [hml]; rfl) (Steps.refl _) (argsL := [(.double (FP.i2d x2))]) (rest := []) (lenOf pd_0 rfl) rfl (by show 2 * 0 + _ ≤ _; exact Nat.le_of_eq rfl) (hb hby at_225) (fun _ _ => ⟨rfl, rfl, (by decide : (5 + 0) + 0 ≤ _), (by decide : (23 + 0) + 0 ≤ _)⟩)
  dsimp only [Pt.U, Pt.locs, Pt.cells, Pt.slots] at X320 l320 y320 z320 st320 hQ320
  subst l320 y320 z320
  obtain ⟨rfl, Nq320, Kc320, Ec320, Fc320, Fm320, Fs320⟩ := hQ320
  have N320 := Fr.app N317 Nq320
  have r321 : Steps p.tables e below S0 (T320.setTop (mkF m 228 #[.val (.int p1), .val (.long p2), .second, .val (.long p3), .second, .val (.long p4), .second, .val (.int sl), .val (.ref b1), .val (.ref b2), .val (.int mm), .val (.int kk), .val (.int nm), .val (.int qq), .val (.int x1), .val (.int x2), .val (.int y1), .val (.int y2), .val (.int z1), .val (.int z2), .val (.ref oa), .val (.ref ob), .val (.ref oc), .unset, .unset, .unset, .unset, .unset, .unset, .unset, .unset, .unset, .unset, .unset, .unset] [])) := r319.trans st320
  have F320_ob_count := F317_ob_count.keep Kc320 (ninS (Ne.symm ne_ab) nin0)
  have F320_ob_mean := F317_ob_mean.keep Kc320 (ninS (Ne.symm ne_ab) nin0)
  have F320_ob_squares := F317_ob_squares.keep Kc320 (ninS (Ne.symm ne_ab) nin0)
  have F320_oc_count := F317_oc_count.keep Kc320 (ninS (Ne.symm ne_ac) nin0)
  have F320_oc_mean := F317_oc_mean.keep Kc320 (ninS (Ne.symm ne_ac) nin0)
  have F320_oc_squares := F317_oc_squares.keep Kc320 (ninS (Ne.symm ne_ac) nin0)
  have E320_oa := Ec317.keep Kc320
  have E320_ob := E317_ob.keep Kc320
  have E320_oc := E317_oc.keep Kc320
  have Z320 : n0 ≤ T320.heap.size := Nat.le_trans Z317 Kc320.1
  have O320 := O317.keep Kc320 (allS g_oa (all0))
  have hk1_ : ¬ kk < (1 : Int32) := by rw [hk]; decide
  have hcb1 : ((0 : Int64) + (1 : Int64)).toInt = 1 := by decide
  obtain ⟨mb1, sb1, hAb1, ymb1, ysb1⟩ := st1 (Dy.i2d y1) (nb1 by1) hcb1
  have r322 : Steps p.tables e below S0 (T320.setTop (mkF m 239 #[.val (.int p1), .val (.long p2), .second, .val (.long p3), .second, .val (.long p4), .second, .val (.int sl), .val (.ref b1), .val (.ref b2), .val (.int mm), .val (.int kk), .val (.int nm), .val (.int qq), .val (.int x1), .val (.int x2), .val (.int y1), .val (.int y2), .val (.int z1), .val (.int z2), .val (.ref oa), .val (.ref ob), .val (.ref oc), .unset, .unset, .unset, .unset, .unset, .unset, .unset, .unset, .unset, .unset, .unset, .unset] [(.double (FP.i2d y1)), (.ref ob)])) := by
    refine r321.trans ?_
    show Steps p.tables e below (T320.setTop (mkF m 228 #[.val (.int p1), .val (.long p2), .second, .val (.long p3), .second, .val (.long p4), .second, .val (.int sl), .val (.ref b1), .val (.ref b2), .val (.int mm), .val (.int kk), .val (.int nm), .val (.int qq), .val (.int x1), .val (.int x2), .val (.int y1), .val (.int y2), .val (.int z1), .val (.int z2), .val (.ref oa), .val (.ref ob), .val (.ref oc), .unset, .unset, .unset, .unset, .unset, .unset, .unset, .unset, .unset, .unset, .unset, .unset] [])) _
    refine XS.iload X320.here hx rfl (hb hby at_228) rfl ?_
    refine XS.iconst X320.here hx rfl (hb hby at_230) ?_
    refine XS.icmpNo X320.here hx rfl (hb hby at_231) rfl (flt hk1_).1 ?_
    show Steps p.tables e below (T320.setTop (mkF m 234 #[.val (.int p1), .val (.long p2), .second, .val (.long p3), .second, .val (.long p4), .second, .val (.int sl), .val (.ref b1), .val (.ref b2), .val (.int mm), .val (.int kk), .val (.int nm), .val (.int qq), .val (.int x1), .val (.int x2), .val (.int y1), .val (.int y2), .val (.int z1), .val (.int z2), .val (.ref oa), .val (.ref ob), .val (.ref oc), .unset, .unset, .unset, .unset, .unset, .unset, .unset, .unset, .unset, .unset, .unset, .unset] [])) _
    refine XS.aload X320.here hx rfl (hb hby at_234) rfl rfl ?_
    refine XS.iload X320.here hx rfl (hb hby at_236) rfl ?_
    refine XS.i2dS X320.here hx rfl (hb hby at_238) rfl rfl ?_
    exact Steps.refl _
  obtain ⟨cq323, kq323, q323a, q323b, q323c⟩ := isOf hZ rfl E320_ob
  obtain ⟨_, _, ⟨T323, L323, k323, n323⟩, -, X323, ⟨Lc323, hQ323, l323, y323, z323⟩, st323⟩ := X320.virtualBack hx (y := (⟨"org/rowfold/aggregate/Moments", "add", "(D)V"⟩ : MethodName)) (z := (⟨"org/rowfold/aggregate/Moments", "add", "(D)V"⟩ : MethodName)) hown (mvT hZ (hw _ (List.mem_of_getElem? (i := 45) rfl))) (mvT hZ (hw _ (List.mem_of_getElem? (i := 46) rfl))) (notFace_of_selects (args := #[]) (mvT hZ (hw _ (List.mem_of_getElem? (i := 48) rfl)))) (mvT hZ (hw _ (List.mem_of_getElem? (i := 48) rfl))) (mvT hZ (hw _ (List.mem_of_getElem? (i := 47) rfl))) (by decide) (backOf (W := 0) (rmA l Z a0 hw [] ob (FP.i2d y1) (0 : Int64) (0 : UInt64) (0 : UInt64) mb1 sb1 T320.heap n0 Z320 F320_ob_count F320_ob_mean F320_ob_squares E320_ob g_ob hAb1) hZ (hw _ (List.mem_of_getElem? (i := 49) rfl)) (hw _ (List.mem_of_getElem? (i := 8) rfl)) (by decide) (by decide)) q323a q323c (g := (mkF m 239 #[.val (.int p1), .val (.long p2), .second, .val (.long p3), .second, .val (.long p4), .second, .val (.int sl), .val (.ref b1), .val (.ref b2), .val (.int mm), .val (.int kk), .val (.int nm), .val (.int qq), .val (.int x1), .val (.int x2), .val (.int y1), .val (.int y2), .val (.int z1), .val (.int z2), .val (.ref oa), .val (.ref ob), .val (.ref oc), .unset, .unset, .unset, .unset, .unset, .unset, .unset, .unset, .unset, .unset, .unset, .unset] [(.double (FP.i2d y1)), (.ref ob)])) rfl (by rw [hml]; rfl) (Steps.refl _) (argsL := [(.double (FP.i2d y1))]) (rest := []) (lenOf pd_0 rfl) rfl (by show 2 * 0 + _ ≤ _; exact Nat.le_of_eq rfl) (hb hby at_239) (fun _ _ => ⟨rfl, rfl, (by decide : ((5 + 0) + 0) + 0 ≤ _), (by decide : ((23 + 0) + 0) + 0 ≤ _)⟩)
  dsimp only [Pt.U, Pt.locs, Pt.cells, Pt.slots] at X323 l323 y323 z323 st323 hQ323
  subst l323 y323 z323
  obtain ⟨rfl, Nq323, Kc323, Ec323, Fc323, Fm323, Fs323⟩ := hQ323
  have N323 := Fr.app N320 Nq323
  have r324 : Steps p.tables e below S0 (T323.setTop (mkF m 242 #[.val (.int p1), .val (.long p2), .second, .val (.long p3), .second, .val (.long p4), .second, .val (.int sl), .val (.ref b1), .val (.ref b2), .val (.int mm), .val (.int kk), .val (.int nm), .val (.int qq), .val (.int x1), .val (.int x2), .val (.int y1), .val (.int y2), .val (.int z1), .val (.int z2), .val (.ref oa), .val (.ref ob), .val (.ref oc), .unset, .unset, .unset, .unset, .unset, .unset, .unset, .unset, .unset, .unset, .unset, .unset] [])) := r322.trans st323
  have F323_oc_count := F320_oc_count.keep Kc323 (ninS (Ne.symm ne_bc) nin0)
  have F323_oc_mean := F320_oc_mean.keep Kc323 (ninS (Ne.symm ne_bc) nin0)
  have F323_oc_squares := F320_oc_squares.keep Kc323 (ninS (Ne.symm ne_bc) nin0)
  have F323_oa_count := Fc320.keep Kc323 (ninS ne_ab nin0)
  have F323_oa_mean := Fm320.keep Kc323 (ninS ne_ab nin0)
  have F323_oa_squares := Fs320.keep Kc323 (ninS ne_ab nin0)
  have E323_oa := Ec320.keep Kc323
  have E323_ob := E320_ob.keep Kc323
  have E323_oc := E320_oc.keep Kc323
  have Z323 : n0 ≤ T323.heap.size := Nat.le_trans Z320 Kc323.1
  have O323 := O320.keep Kc323 (allS g_ob (all0))
  have hk2_ : ¬ kk < (2 : Int32) := by rw [hk]; decide
  have hcb2 : (((0 : Int64) + (1 : Int64)) + (1 : Int64)).toInt = 2 := by decide
  obtain ⟨mb2, sb2, hAb2, ymb2, ysb2⟩ := st2 (Dy.i2d y2) ymb1 ysb1 (nb1 by1) (nb1 by2) hcb2
  have r325 : Steps p.tables e below S0 (T323.setTop (mkF m 253 #[.val (.int p1), .val (.long p2), .second, .val (.long p3), .second, .val (.long p4), .second, .val (.int sl), .val (.ref b1), .val (.ref b2), .val (.int mm), .val (.int kk), .val (.int nm), .val (.int qq), .val (.int x1), .val (.int x2), .val (.int y1), .val (.int y2), .val (.int z1), .val (.int z2), .val (.ref oa), .val (.ref ob), .val (.ref oc), .unset, .unset, .unset, .unset, .unset, .unset, .unset, .unset, .unset, .unset, .unset, .unset] [(.double (FP.i2d y2)), (.ref ob)])) := by
    refine r324.trans ?_
    show Steps p.tables e below (T323.setTop (mkF m 242 #[.val (.int p1), .val (.long p2), .second, .val (.long p3), .second, .val (.long p4), .second, .val (.int sl), .val (.ref b1), .val (.ref b2), .val (.int mm), .val (.int kk), .val (.int nm), .val (.int qq), .val (.int x1), .val (.int x2), .val (.int y1), .val (.int y2), .val (.int z1), .val (.int z2), .val (.ref oa), .val (.ref ob), .val (.ref oc), .unset, .unset, .unset, .unset, .unset, .unset, .unset, .unset, .unset, .unset, .unset, .unset] [])) _
    refine XS.iload X323.here hx rfl (hb hby at_242) rfl ?_
    refine XS.iconst X323.here hx rfl (hb hby at_244) ?_
    refine XS.icmpNo X323.here hx rfl (hb hby at_245) rfl (flt hk2_).1 ?_
    show Steps p.tables e below (T323.setTop (mkF m 248 #[.val (.int p1), .val (.long p2), .second, .val (.long p3), .second, .val (.long p4), .second, .val (.int sl), .val (.ref b1), .val (.ref b2), .val (.int mm), .val (.int kk), .val (.int nm), .val (.int qq), .val (.int x1), .val (.int x2), .val (.int y1), .val (.int y2), .val (.int z1), .val (.int z2), .val (.ref oa), .val (.ref ob), .val (.ref oc), .unset, .unset, .unset, .unset, .unset, .unset, .unset, .unset, .unset, .unset, .unset, .unset] [])) _
    refine XS.aload X323.here hx rfl (hb hby at_248) rfl rfl ?_
    refine XS.iload X323.here hx rfl (hb hby at_250) rfl ?_
    refine XS.i2dS X323.here hx rfl (hb hby at_252) rfl rfl ?_
    exact Steps.refl _
  obtain ⟨cq326, kq326, q326a, q326b, q326c⟩ := isOf hZ rfl Ec323
  obtain ⟨_, _, ⟨T326, L326, k326, n326⟩, -, X326, ⟨Lc326, hQ326, l326, y326, z326⟩, st326⟩ := X323.virtualBack hx (y := (⟨"org/rowfold/aggregate/Moments", "add", "(D)V"⟩ : MethodName)) (z := (⟨"org/rowfold/aggregate/Moments", "add", "(D)V"⟩ : MethodName)) hown (mvT hZ (hw _ (List.mem_of_getElem? (i := 45) rfl))) (mvT hZ (hw _ (List.mem_of_getElem? (i := 46) rfl))) (notFace_of_selects (args := #[]) (mvT hZ (hw _ (List.mem_of_getElem? (i := 48) rfl)))) (mvT hZ (hw _ (List.mem_of_getElem? (i := 48) rfl))) (mvT hZ (hw _ (List.mem_of_getElem? (i := 47) rfl))) (by decide) (backOf (W := 0) (rmA l Z a0 hw [] ob (FP.i2d y2) ((0 : Int64) + (1 : Int64)) mb1 sb1 mb2 sb2 T323.heap n0 Z323 Fc323 Fm323 Fs323 Ec323 g_ob hAb2) hZ (hw _ (List.mem_of_getElem? (i := 49) rfl)) (hw _ (List.mem_of_getElem? (i := 8) rfl)) (by decide) (by decide)) q326a q326c (g := (mkF m 253 #[.val (.int p1), .val (.long p2), .second, .val (.long p3), .second, .val (.long p4), .second, .val (.int sl), .val (.ref b1), .val (.ref b2), .val (.int mm), .val (.int kk), .val (.int nm), .val (.int qq), .val (.int x1), .val (.int x2), .val (.int y1), .val (.int y2), .val (.int z1), .val (.int z2), .val (.ref oa), .val (.ref ob), .val (.ref oc), .unset, .unset, .unset, .unset, .unset, .unset, .unset, .unset, .unset, .unset, .unset, .unset] [(.double (FP.i2d y2)), (.ref ob)])) rfl (by rw [hml]; rfl) (Steps.refl _) (argsL := [(.double (FP.i2d y2))]) (rest := []) (lenOf pd_0 rfl) rfl (by show 2 * 0 + _ ≤ _; exact Nat.le_of_eq rfl) (hb hby at_253) (fun _ _ => ⟨rfl, rfl, (by decide : (((5 + 0) + 0) + 0) + 0 ≤ _), (by decide : (((23 + 0) + 0) + 0) + 0 ≤ _)⟩)
  dsimp only [Pt.U, Pt.locs, Pt.cells, Pt.slots] at X326 l326 y326 z326 st326 hQ326
  subst l326 y326 z326
  obtain ⟨rfl, Nq326, Kc326, Ec326, Fc326, Fm326, Fs326⟩ := hQ326
  have N326 := Fr.app N323 Nq326
  have r327 : Steps p.tables e below S0 (T326.setTop (mkF m 256 #[.val (.int p1), .val (.long p2), .second, .val (.long p3), .second, .val (.long p4), .second, .val (.int sl), .val (.ref b1), .val (.ref b2), .val (.int mm), .val (.int kk), .val (.int nm), .val (.int qq), .val (.int x1), .val (.int x2), .val (.int y1), .val (.int y2), .val (.int z1), .val (.int z2), .val (.ref oa), .val (.ref ob), .val (.ref oc), .unset, .unset, .unset, .unset, .unset, .unset, .unset, .unset, .unset, .unset, .unset, .unset] [])) := r325.trans st326
  have F326_oc_count := F323_oc_count.keep Kc326 (ninS (Ne.symm ne_bc) nin0)
  have F326_oc_mean := F323_oc_mean.keep Kc326 (ninS (Ne.symm ne_bc) nin0)
  have F326_oc_squares := F323_oc_squares.keep Kc326 (ninS (Ne.symm ne_bc) nin0)
  have F326_oa_count := F323_oa_count.keep Kc326 (ninS ne_ab nin0)
  have F326_oa_mean := F323_oa_mean.keep Kc326 (ninS ne_ab nin0)
  have F326_oa_squares := F323_oa_squares.keep Kc326 (ninS ne_ab nin0)
  have E326_oa := E323_oa.keep Kc326
  have E326_ob := Ec323.keep Kc326
  have E326_oc := E323_oc.keep Kc326
  have Z326 : n0 ≤ T326.heap.size := Nat.le_trans Z323 Kc326.1
  have O326 := O323.keep Kc326 (allS g_ob (all0))
  have hq1_ : qq < (1 : Int32) := by rw [hq]; decide
  have hq2_ : qq < (2 : Int32) := by rw [hq]; decide
  obtain ⟨mr0, sr0, hCr0, ysr0⟩ := c22 (c1 := (((0 : Int64) + (1 : Int64)) + (1 : Int64))) (c2 := (((0 : Int64) + (1 : Int64)) + (1 : Int64))) (t := (((0 : Int64) + (1 : Int64)) + (1 : Int64)) + (((0 : Int64) + (1 : Int64)) + (1 : Int64))) (by decide) (by decide) (by decide) yma2 ysa2 ymb2 ysb2 (nb2 bx1 bx2) (nb2 by1 by2) (sq_le (nb3 bx1 bx2)) (sq_le (nb3 by1 by2))
  have r328 : Steps p.tables e below S0 (T326.setTop (mkF m 288 #[.val (.int p1), .val (.long p2), .second, .val (.long p3), .second, .val (.long p4), .second, .val (.int sl), .val (.ref b1), .val (.ref b2), .val (.int mm), .val (.int kk), .val (.int nm), .val (.int qq), .val (.int x1), .val (.int x2), .val (.int y1), .val (.int y2), .val (.int z1), .val (.int z2), .val (.ref oa), .val (.ref ob), .val (.ref oc), .unset, .unset, .unset, .unset, .unset, .unset, .unset, .unset, .unset, .unset, .unset, .unset] [(.ref ob), (.ref oa)])) := by
    refine r327.trans ?_
    show Steps p.tables e below (T326.setTop (mkF m 256 #[.val (.int p1), .val (.long p2), .second, .val (.long p3), .second, .val (.long p4), .second, .val (.int sl), .val (.ref b1), .val (.ref b2), .val (.int mm), .val (.int kk), .val (.int nm), .val (.int qq), .val (.int x1), .val (.int x2), .val (.int y1), .val (.int y2), .val (.int z1), .val (.int z2), .val (.ref oa), .val (.ref ob), .val (.ref oc), .unset, .unset, .unset, .unset, .unset, .unset, .unset, .unset, .unset, .unset, .unset, .unset] [])) _
    refine XS.iload X326.here hx rfl (hb hby at_256) rfl ?_
    refine XS.iconst X326.here hx rfl (hb hby at_258) ?_
    refine XS.icmpYes X326.here hx rfl (pc0 := 259) (pc' := 270) rfl (hb hby at_259) rfl (tlt hq1_).1 (by decide) (by decide) ?_
    show Steps p.tables e below (T326.setTop (mkF m 270 #[.val (.int p1), .val (.long p2), .second, .val (.long p3), .second, .val (.long p4), .second, .val (.int sl), .val (.ref b1), .val (.ref b2), .val (.int mm), .val (.int kk), .val (.int nm), .val (.int qq), .val (.int x1), .val (.int x2), .val (.int y1), .val (.int y2), .val (.int z1), .val (.int z2), .val (.ref oa), .val (.ref ob), .val (.ref oc), .unset, .unset, .unset, .unset, .unset, .unset, .unset, .unset, .unset, .unset, .unset, .unset] [])) _
    refine XS.iload X326.here hx rfl (hb hby at_270) rfl ?_
    refine XS.iconst X326.here hx rfl (hb hby at_272) ?_
    refine XS.icmpYes X326.here hx rfl (pc0 := 273) (pc' := 284) rfl (hb hby at_273) rfl (tlt hq2_).1 (by decide) (by decide) ?_
    show Steps p.tables e below (T326.setTop (mkF m 284 #[.val (.int p1), .val (.long p2), .second, .val (.long p3), .second, .val (.long p4), .second, .val (.int sl), .val (.ref b1), .val (.ref b2), .val (.int mm), .val (.int kk), .val (.int nm), .val (.int qq), .val (.int x1), .val (.int x2), .val (.int y1), .val (.int y2), .val (.int z1), .val (.int z2), .val (.ref oa), .val (.ref ob), .val (.ref oc), .unset, .unset, .unset, .unset, .unset, .unset, .unset, .unset, .unset, .unset, .unset, .unset] [])) _
    refine XS.aload X326.here hx rfl (hb hby at_284) rfl rfl ?_
    refine XS.aload X326.here hx rfl (hb hby at_286) rfl rfl ?_
    exact Steps.refl _
  obtain ⟨cq329, kq329, q329a, q329b, q329c⟩ := isOf hZ rfl E326_oa
  obtain ⟨_, _, ⟨T329, L329, k329, n329⟩, -, X329, ⟨Lc329, hQ329, l329, y329, z329⟩, st329⟩ := X326.virtualBack hx (y := (⟨"org/rowfold/aggregate/Moments", "combine", "(Lorg/rowfold/aggregate/Moments;)Lorg/rowfold/aggregate/Moments;"⟩ : MethodName)) (z := (⟨"org/rowfold/aggregate/Moments", "combine", "(Lorg/rowfold/aggregate/Moments;)Lorg/rowfold/aggregate/Moments;"⟩ : MethodName)) hown (mvT hZ (hw _ (List.mem_of_getElem? (i := 15) rfl))) (mvT hZ (hw _ (List.mem_of_getElem? (i := 16) rfl))) (notFace_of_selects (args := #[]) (mvT hZ (hw _ (List.mem_of_getElem? (i := 18) rfl)))) (mvT hZ (hw _ (List.mem_of_getElem? (i := 18) rfl))) (mvT hZ (hw _ (List.mem_of_getElem? (i := 17) rfl))) (by decide) (backOf (W := 0) (rmC1 l Z a0 hw [] oa ob (((0 : Int64) + (1 : Int64)) + (1 : Int64)) ma2 sa2 (((0 : Int64) + (1 : Int64)) + (1 : Int64)) mb2 sb2 mr0 sr0 T326.heap n0 Z326 F326_oa_count F326_oa_mean F326_oa_squares Fc326 Fm326 Fs326 E326_oa g_oa ne_ab (by decide) hCr0) hZ (hw _ (List.mem_of_getElem? (i := 19) rfl)) (hw _ (List.mem_of_getElem? (i := 8) rfl)) (by decide) (by decide)) q329a q329c (g := (mkF m 288 #[.val (.int p1), .val (.long p2), .second, .val (.long p3), .second, .val (.long p4), .second, .val (.int sl), .val (.ref b1), .val (.ref b2), .val (.int mm), .val (.int kk), .val (.int nm), .val (.int qq), .val (.int x1), .val (.int x2), .val (.int y1), .val (.int y2), .val (.int z1), .val (.int z2), .val (.ref oa), .val (.ref ob), .val (.ref oc), .unset, .unset, .unset, .unset, .unset, .unset, .unset, .unset, .unset, .unset, .unset, .unset] [(.ref ob), (.ref oa)])) rfl (by rw [hml]; rfl) (Steps.refl _) (argsL := [(.ref ob)]) (rest := []) (lenOf pd_5 rfl) rfl (by show 2 * 0 + _ ≤ _; exact Nat.le_of_eq rfl) (hb hby at_288) (fun _ _ => ⟨rfl, rfl, (by decide : ((((5 + 0) + 0) + 0) + 0) + 0 ≤ _), (by decide : ((((23 + 0) + 0) + 0) + 0) + 0 ≤ _)⟩)
  dsimp only [Pt.U, Pt.locs, Pt.cells, Pt.slots] at X329 l329 y329 z329 st329 hQ329
  subst l329 y329 z329
  obtain ⟨rfl, Nq329, Kc329, Ec329, Fc329, Fm329, Fs329⟩ := hQ329
  have N329 := Fr.app N326 Nq329
  have r330 : Steps p.tables e below S0 (T329.setTop (mkF m 291 #[.val (.int p1), .val (.long p2), .second, .val (.long p3), .second, .val (.long p4), .second, .val (.int sl), .val (.ref b1), .val (.ref b2), .val (.int mm), .val (.int kk), .val (.int nm), .val (.int qq), .val (.int x1), .val (.int x2), .val (.int y1), .val (.int y2), .val (.int z1), .val (.int z2), .val (.ref oa), .val (.ref ob), .val (.ref oc), .unset, .unset, .unset, .unset, .unset, .unset, .unset, .unset, .unset, .unset, .unset, .unset] [(.ref oa)])) := r328.trans st329
  have F329_oc_count := F326_oc_count.keep Kc329 (ninS (Ne.symm ne_ac) nin0)
  have F329_oc_mean := F326_oc_mean.keep Kc329 (ninS (Ne.symm ne_ac) nin0)
  have F329_oc_squares := F326_oc_squares.keep Kc329 (ninS (Ne.symm ne_ac) nin0)
  have F329_ob_count := Fc326.keep Kc329 (ninS (Ne.symm ne_ab) nin0)
  have F329_ob_mean := Fm326.keep Kc329 (ninS (Ne.symm ne_ab) nin0)
  have F329_ob_squares := Fs326.keep Kc329 (ninS (Ne.symm ne_ab) nin0)
  have E329_oa := E326_oa.keep Kc329
  have E329_ob := Ec326.keep Kc329
  have E329_oc := E326_oc.keep Kc329
  have Z329 : n0 ≤ T329.heap.size := Nat.le_trans Z326 Kc329.1
  have O329 := O326.keep Kc329 (allS g_oa (all0))
  have r331 : Steps p.tables e below S0 (T329.setTop (mkF m 306 #[.val (.int p1), .val (.long p2), .second, .val (.long p3), .second, .val (.long p4), .second, .val (.int sl), .val (.ref b1), .val (.ref b2), .val (.int mm), .val (.int kk), .val (.int nm), .val (.int qq), .val (.int x1), .val (.int x2), .val (.int y1), .val (.int y2), .val (.int z1), .val (.int z2), .val (.ref oa), .val (.ref ob), .val (.ref oc), .val (.ref oa), .unset, .unset, .unset, .unset, .unset, .unset, .unset, .unset, .unset, .unset, .unset] [(.ref oc), (.ref oa)])) := by
    refine r330.trans ?_
    show Steps p.tables e below (T329.setTop (mkF m 291 #[.val (.int p1), .val (.long p2), .second, .val (.long p3), .second, .val (.long p4), .second, .val (.int sl), .val (.ref b1), .val (.ref b2), .val (.int mm), .val (.int kk), .val (.int nm), .val (.int qq), .val (.int x1), .val (.int x2), .val (.int y1), .val (.int y2), .val (.int z1), .val (.int z2), .val (.ref oa), .val (.ref ob), .val (.ref oc), .unset, .unset, .unset, .unset, .unset, .unset, .unset, .unset, .unset, .unset, .unset, .unset] [(.ref oa)])) _
    refine XS.astore X329.here hx rfl (hb hby at_291) rfl rfl (l' := #[.val (.int p1), .val (.long p2), .second, .val (.long p3), .second, .val (.long p4), .second, .val (.int sl), .val (.ref b1), .val (.ref b2), .val (.int mm), .val (.int kk), .val (.int nm), .val (.int qq), .val (.int x1), .val (.int x2), .val (.int y1), .val (.int y2), .val (.int z1), .val (.int z2), .val (.ref oa), .val (.ref ob), .val (.ref oc), .val (.ref oa), .unset, .unset, .unset, .unset, .unset, .unset, .unset, .unset, .unset, .unset, .unset]) rfl ?_
    refine XS.aload X329.here hx rfl (hb hby at_293) rfl rfl ?_
    refine XS.aload X329.here hx rfl (hb hby at_295) rfl rfl ?_
    show Steps p.tables e below (T329.setTop (mkF m 297 #[.val (.int p1), .val (.long p2), .second, .val (.long p3), .second, .val (.long p4), .second, .val (.int sl), .val (.ref b1), .val (.ref b2), .val (.int mm), .val (.int kk), .val (.int nm), .val (.int qq), .val (.int x1), .val (.int x2), .val (.int y1), .val (.int y2), .val (.int z1), .val (.int z2), .val (.ref oa), .val (.ref ob), .val (.ref oc), .val (.ref oa), .unset, .unset, .unset, .unset, .unset, .unset, .unset, .unset, .unset, .unset, .unset] [(.ref oa), (.ref oa)])) _
    refine Jvm.RoadKit.acmp (g := (mkF m 297 #[.val (.int p1), .val (.long p2), .second, .val (.long p3), .second, .val (.long p4), .second, .val (.int sl), .val (.ref b1), .val (.ref b2), .val (.int mm), .val (.int kk), .val (.int nm), .val (.int qq), .val (.int x1), .val (.int x2), .val (.int y1), .val (.int y2), .val (.int z1), .val (.int z2), .val (.ref oa), .val (.ref ob), .val (.ref oc), .val (.ref oa), .unset, .unset, .unset, .unset, .unset, .unset, .unset, .unset, .unset, .unset, .unset] [(.ref oa), (.ref oa)])) X329 hx rfl rfl rfl (pc0 := 297) (pc' := 302) (same := true) rfl (hb hby at_297) rfl (decide_eq_true rfl) (by decide) (by decide) ?_
    refine XS.aload X329.here hx rfl (hb hby at_302) rfl rfl ?_
    refine XS.aload X329.here hx rfl (hb hby at_304) rfl rfl ?_
    exact Steps.refl _
  obtain ⟨cq332, kq332, q332a, q332b, q332c⟩ := isOf hZ rfl Ec329
  obtain ⟨_, _, ⟨T332, L332, k332, n332⟩, -, X332, ⟨Lc332, hQ332, l332, y332, z332⟩, st332⟩ := X329.virtualBack hx (y := (⟨"org/rowfold/aggregate/Moments", "combine", "(Lorg/rowfold/aggregate/Moments;)Lorg/rowfold/aggregate/Moments;"⟩ : MethodName)) (z := (⟨"org/rowfold/aggregate/Moments", "combine", "(Lorg/rowfold/aggregate/Moments;)Lorg/rowfold/aggregate/Moments;"⟩ : MethodName)) hown (mvT hZ (hw _ (List.mem_of_getElem? (i := 15) rfl))) (mvT hZ (hw _ (List.mem_of_getElem? (i := 16) rfl))) (notFace_of_selects (args := #[]) (mvT hZ (hw _ (List.mem_of_getElem? (i := 18) rfl)))) (mvT hZ (hw _ (List.mem_of_getElem? (i := 18) rfl))) (mvT hZ (hw _ (List.mem_of_getElem? (i := 17) rfl))) (by decide) (backOf (W := 0) (rmC0 l Z a0 hw [] oa oc (0 : Int64) T329.heap n0 Z329 F329_oc_count (by decide)) hZ (hw _ (List.mem_of_getElem? (i := 19) rfl)) (hw _ (List.mem_of_getElem? (i := 8) rfl)) (by decide) (by decide)) q332a q332c (g := (mkF m 306 #[.val (.int p1), .val (.long p2), .second, .val (.long p3), .second, .val (.long p4), .second, .val (.int sl), .val (.ref b1), .val (.ref b2), .val (.int mm), .val (.int kk), .val (.int nm), .val (.int qq), .val (.int x1), .val (.int x2), .val (.int y1), .val (.int y2), .val (.int z1), .val (.int z2), .val (.ref oa), .val (.ref ob), .val (.ref oc), .val (.ref oa), .unset, .unset, .unset, .unset, .unset, .unset, .unset, .unset, .unset, .unset, .unset] [(.ref oc), (.ref oa)])) rfl (by rw [hml]; rfl) (Steps.refl _) (argsL := [(.ref oc)]) (rest := []) (lenOf pd_5 rfl) rfl (by show 2 * 0 + _ ≤ _; exact Nat.le_of_eq rfl) (hb hby at_306) (fun _ _ => ⟨rfl, rfl, (by decide : (((((5 + 0) + 0) + 0) + 0) + 0) + 0 ≤ _), (by decide : (((((23 + 0) + 0) + 0) + 0) + 0) + 0 ≤ _)⟩)
  dsimp only [Pt.U, Pt.locs, Pt.cells, Pt.slots] at X332 l332 y332 z332 st332 hQ332
  subst l332 y332 z332
  obtain ⟨rfl, Nq332, e332⟩ := hQ332
  have N332 := Fr.app N329 Nq332
  have r333 : Steps p.tables e below S0 (T332.setTop (mkF m 309 #[.val (.int p1), .val (.long p2), .second, .val (.long p3), .second, .val (.long p4), .second, .val (.int sl), .val (.ref b1), .val (.ref b2), .val (.int mm), .val (.int kk), .val (.int nm), .val (.int qq), .val (.int x1), .val (.int x2), .val (.int y1), .val (.int y2), .val (.int z1), .val (.int z2), .val (.ref oa), .val (.ref ob), .val (.ref oc), .val (.ref oa), .unset, .unset, .unset, .unset, .unset, .unset, .unset, .unset, .unset, .unset, .unset] [(.ref oa)])) := r331.trans st332
  have r334 : Steps p.tables e below S0 (T332.setTop (mkF m 320 #[.val (.int p1), .val (.long p2), .second, .val (.long p3), .second, .val (.long p4), .second, .val (.int sl), .val (.ref b1), .val (.ref b2), .val (.int mm), .val (.int kk), .val (.int nm), .val (.int qq), .val (.int x1), .val (.int x2), .val (.int y1), .val (.int y2), .val (.int z1), .val (.int z2), .val (.ref oa), .val (.ref ob), .val (.ref oc), .val (.ref oa), .val (.ref oa), .unset, .unset, .unset, .unset, .unset, .unset, .unset, .unset, .unset, .unset] [])) := by
    refine r333.trans ?_
    show Steps p.tables e below (T332.setTop (mkF m 309 #[.val (.int p1), .val (.long p2), .second, .val (.long p3), .second, .val (.long p4), .second, .val (.int sl), .val (.ref b1), .val (.ref b2), .val (.int mm), .val (.int kk), .val (.int nm), .val (.int qq), .val (.int x1), .val (.int x2), .val (.int y1), .val (.int y2), .val (.int z1), .val (.int z2), .val (.ref oa), .val (.ref ob), .val (.ref oc), .val (.ref oa), .unset, .unset, .unset, .unset, .unset, .unset, .unset, .unset, .unset, .unset, .unset] [(.ref oa)])) _
    refine XS.astore X332.here hx rfl (hb hby at_309) rfl rfl (l' := #[.val (.int p1), .val (.long p2), .second, .val (.long p3), .second, .val (.long p4), .second, .val (.int sl), .val (.ref b1), .val (.ref b2), .val (.int mm), .val (.int kk), .val (.int nm), .val (.int qq), .val (.int x1), .val (.int x2), .val (.int y1), .val (.int y2), .val (.int z1), .val (.int z2), .val (.ref oa), .val (.ref ob), .val (.ref oc), .val (.ref oa), .val (.ref oa), .unset, .unset, .unset, .unset, .unset, .unset, .unset, .unset, .unset, .unset]) rfl ?_
    refine XS.aload X332.here hx rfl (hb hby at_311) rfl rfl ?_
    refine XS.aload X332.here hx rfl (hb hby at_313) rfl rfl ?_
    show Steps p.tables e below (T332.setTop (mkF m 315 #[.val (.int p1), .val (.long p2), .second, .val (.long p3), .second, .val (.long p4), .second, .val (.int sl), .val (.ref b1), .val (.ref b2), .val (.int mm), .val (.int kk), .val (.int nm), .val (.int qq), .val (.int x1), .val (.int x2), .val (.int y1), .val (.int y2), .val (.int z1), .val (.int z2), .val (.ref oa), .val (.ref ob), .val (.ref oc), .val (.ref oa), .val (.ref oa), .unset, .unset, .unset, .unset, .unset, .unset, .unset, .unset, .unset, .unset] [(.ref oa), (.ref oa)])) _
    refine Jvm.RoadKit.acmp (g := (mkF m 315 #[.val (.int p1), .val (.long p2), .second, .val (.long p3), .second, .val (.long p4), .second, .val (.int sl), .val (.ref b1), .val (.ref b2), .val (.int mm), .val (.int kk), .val (.int nm), .val (.int qq), .val (.int x1), .val (.int x2), .val (.int y1), .val (.int y2), .val (.int z1), .val (.int z2), .val (.ref oa), .val (.ref ob), .val (.ref oc), .val (.ref oa), .val (.ref oa), .unset, .unset, .unset, .unset, .unset, .unset, .unset, .unset, .unset, .unset] [(.ref oa), (.ref oa)])) X332 hx rfl rfl rfl (pc0 := 315) (pc' := 320) (same := true) rfl (hb hby at_315) rfl (decide_eq_true rfl) (by decide) (by decide) ?_
    exact Steps.refl _
  have htot : nm + qq = 4 := by rw [hn, hq]; decide
  have hid := id4 x1.toInt x2.toInt y1.toInt y2.toInt
  have hW : _ = 4 * SQ - SX * SX := hid.trans (by rw [hSQ, hSX, B0_, B1_, B2_, B3_, B4_, B5_]; simp only [Int.mul_zero, Int.zero_add, Int.add_zero, Int.add_assoc])
  exact ⟨T332, T329.heap, _, ((((0 : Int64) + (1 : Int64)) + (1 : Int64)) + (((0 : Int64) + (1 : Int64)) + (1 : Int64))), sr0, X332, e332, N332, O329, Z329, Ec329, Fc329, Fs329, Or.inr (Or.inr ⟨by decide, htot, ysr0.cast hW rfl⟩), r334⟩
set_option maxRecDepth 65536 in
set_option maxHeartbeats 40000000 in
theorem sgV {p : Program} {e : Env} {s : State} {m : MethodId} {below : List Frame} {meth : Method} {c : Code} (l : Launch) (Z : State) (a0 : Array Value) (hw : ∀ d ∈ tables_1, d.before a0 Z = true) (p1 : Int32) (p2 p3 p4 : Int64) (hx : p.tables.exec = Jvm.exec) (hby : c.code = code) (hml : c.maxLocals = 35) (hown : s.vm.findClass "org/rowfold/aggregate/MomentsCombinePinLaw" = some m.cls) (hZ : Z.Warmed39 s.vm) (b1 : Addr) (b2 : Addr) (sl : Int32) (mm : Int32) (kk : Int32) (nm : Int32) (qq : Int32) (x1 : Int32) (x2 : Int32) (y1 : Int32) (y2 : Int32) (z1 : Int32) (z2 : Int32) (oa : Addr) (ob : Addr) (oc : Addr) (tt : Int32) (B0 : Int) (B1 : Int) (B2 : Int) (B3 : Int) (B4 : Int) (B5 : Int) (S0 T0 : State) (h0 : Heap) (L0 : List Loc) (n0 : Nat) (X0 : Stand p l e room_1 s m #[(.int p1), (.long p2), (.long p3), (.long p4)] below meth c T0 L0 5 23) (e0 : T0.heap = h0) (N0 : Fr n0 L0) (O0 : Old Z n0 h0) (Z0 : n0 ≤ h0.size) (bx1 : x1.toInt.natAbs ≤ 1048576) (bx2 : x2.toInt.natAbs ≤ 1048576) (by1 : y1.toInt.natAbs ≤ 1048576) (by2 : y2.toInt.natAbs ≤ 1048576) (bz1 : z1.toInt.natAbs ≤ 1048576) (bz2 : z2.toInt.natAbs ≤ 1048576) (hB0 : B0 = (if mm < (1 : Int32) then 0 else x1.toInt)) (hB1 : B1 = (if mm < (2 : Int32) then 0 else x2.toInt)) (hB2 : B2 = (if kk < (1 : Int32) then 0 else y1.toInt)) (hB3 : B3 = (if kk < (2 : Int32) then 0 else y2.toInt)) (hB4 : B4 = (if qq < (1 : Int32) then 0 else z1.toInt)) (hB5 : B5 = (if qq < (2 : Int32) then 0 else z2.toInt)) (r0 : Steps p.tables e below S0 (T0.setTop (mkF m 327 #[.val (.int p1), .val (.long p2), .second, .val (.long p3), .second, .val (.long p4), .second, .val (.int sl), .val (.ref b1), .val (.ref b2), .val (.int mm), .val (.int kk), .val (.int nm), .val (.int qq), .val (.int x1), .val (.int x2), .val (.int y1), .val (.int y2), .val (.int z1), .val (.int z2), .val (.ref oa), .val (.ref ob), .val (.ref oc), .val (.ref oa), .val (.ref oa), .val (.int tt), .unset, .unset, .unset, .unset, .unset, .unset, .unset, .unset, .unset] []))) :
    ∃ (T' : State) (L' : List Loc) (v0 v1 v2 v3 v4 v5 : Int64), Stand p l e room_1 s m #[(.int p1), (.long p2), (.long p3), (.long p4)] below meth c T' L' 5 23 ∧ T'.heap = h0 ∧ Fr n0 L' ∧ v0.toInt = B0 ∧ v1.toInt = B1 ∧ v2.toInt = B2 ∧ v3.toInt = B3 ∧ v4.toInt = B4 ∧ v5.toInt = B5 ∧ Steps p.tables e below S0 (T'.setTop (mkF m 430 #[.val (.int p1), .val (.long p2), .second, .val (.long p3), .second, .val (.long p4), .second, .val (.int sl), .val (.ref b1), .val (.ref b2), .val (.int mm), .val (.int kk), .val (.int nm), .val (.int qq), .val (.int x1), .val (.int x2), .val (.int y1), .val (.int y2), .val (.int z1), .val (.int z2), .val (.ref oa), .val (.ref ob), .val (.ref oc), .val (.ref oa), .val (.ref oa), .val (.int tt), .val (.long (((((v0 + v1) + v2) + v3) + v4) + v5)), .second, .unset, .unset, .unset, .unset, .unset, .unset, .unset] [])) := by
  have r335 : Steps p.tables e below S0 (T0.setTop (mkF m 330 #[.val (.int p1), .val (.long p2), .second, .val (.long p3), .second, .val (.long p4), .second, .val (.int sl), .val (.ref b1), .val (.ref b2), .val (.int mm), .val (.int kk), .val (.int nm), .val (.int qq), .val (.int x1), .val (.int x2), .val (.int y1), .val (.int y2), .val (.int z1), .val (.int z2), .val (.ref oa), .val (.ref ob), .val (.ref oc), .val (.ref oa), .val (.ref oa), .val (.int tt), .unset, .unset, .unset, .unset, .unset, .unset, .unset, .unset, .unset] [(.int (1 : Int32)), (.int mm)])) := by
    refine r0.trans ?_
    show Steps p.tables e below (T0.setTop (mkF m 327 #[.val (.int p1), .val (.long p2), .second, .val (.long p3), .second, .val (.long p4), .second, .val (.int sl), .val (.ref b1), .val (.ref b2), .val (.int mm), .val (.int kk), .val (.int nm), .val (.int qq), .val (.int x1), .val (.int x2), .val (.int y1), .val (.int y2), .val (.int z1), .val (.int z2), .val (.ref oa), .val (.ref ob), .val (.ref oc), .val (.ref oa), .val (.ref oa), .val (.int tt), .unset, .unset, .unset, .unset, .unset, .unset, .unset, .unset, .unset] [])) _
    refine XS.iload X0.here hx rfl (hb hby at_327) rfl ?_
    show Steps p.tables e below (T0.setTop (mkF m 329 #[.val (.int p1), .val (.long p2), .second, .val (.long p3), .second, .val (.long p4), .second, .val (.int sl), .val (.ref b1), .val (.ref b2), .val (.int mm), .val (.int kk), .val (.int nm), .val (.int qq), .val (.int x1), .val (.int x2), .val (.int y1), .val (.int y2), .val (.int z1), .val (.int z2), .val (.ref oa), .val (.ref ob), .val (.ref oc), .val (.ref oa), .val (.ref oa), .val (.int tt), .unset, .unset, .unset, .unset, .unset, .unset, .unset, .unset, .unset] [(.int mm)])) _
    refine XS.iconst X0.here hx rfl (hb hby at_329) ?_
    exact Steps.refl _
  have r339 : Steps p.tables e below S0 (T0.setTop (mkF m 338 #[.val (.int p1), .val (.long p2), .second, .val (.long p3), .second, .val (.long p4), .second, .val (.int sl), .val (.ref b1), .val (.ref b2), .val (.int mm), .val (.int kk), .val (.int nm), .val (.int qq), .val (.int x1), .val (.int x2), .val (.int y1), .val (.int y2), .val (.int z1), .val (.int z2), .val (.ref oa), .val (.ref ob), .val (.ref oc), .val (.ref oa), .val (.ref oa), .val (.int tt), .unset, .unset, .unset, .unset, .unset, .unset, .unset, .unset, .unset] [(.int (if mm < (1 : Int32) then (0 : Int32) else (1 : Int32)))])) := by
    refine r335.trans ?_
    by_cases hf336 : mm < (1 : Int32)
    · skip
      rw [show (if mm < (1 : Int32) then (0 : Int32) else (1 : Int32)) = (0 : Int32) from if_pos hf336]
      have q0 : Steps p.tables e below (T0.setTop (mkF m 330 #[.val (.int p1), .val (.long p2), .second, .val (.long p3), .second, .val (.long p4), .second, .val (.int sl), .val (.ref b1), .val (.ref b2), .val (.int mm), .val (.int kk), .val (.int nm), .val (.int qq), .val (.int x1), .val (.int x2), .val (.int y1), .val (.int y2), .val (.int z1), .val (.int z2), .val (.ref oa), .val (.ref ob), .val (.ref oc), .val (.ref oa), .val (.ref oa), .val (.int tt), .unset, .unset, .unset, .unset, .unset, .unset, .unset, .unset, .unset] [(.int (1 : Int32)), (.int mm)])) (T0.setTop (mkF m 330 #[.val (.int p1), .val (.long p2), .second, .val (.long p3), .second, .val (.long p4), .second, .val (.int sl), .val (.ref b1), .val (.ref b2), .val (.int mm), .val (.int kk), .val (.int nm), .val (.int qq), .val (.int x1), .val (.int x2), .val (.int y1), .val (.int y2), .val (.int z1), .val (.int z2), .val (.ref oa), .val (.ref ob), .val (.ref oc), .val (.ref oa), .val (.ref oa), .val (.int tt), .unset, .unset, .unset, .unset, .unset, .unset, .unset, .unset, .unset] [(.int (1 : Int32)), (.int mm)])) := Steps.refl _
      have r337 : Steps p.tables e below (T0.setTop (mkF m 330 #[.val (.int p1), .val (.long p2), .second, .val (.long p3), .second, .val (.long p4), .second, .val (.int sl), .val (.ref b1), .val (.ref b2), .val (.int mm), .val (.int kk), .val (.int nm), .val (.int qq), .val (.int x1), .val (.int x2), .val (.int y1), .val (.int y2), .val (.int z1), .val (.int z2), .val (.ref oa), .val (.ref ob), .val (.ref oc), .val (.ref oa), .val (.ref oa), .val (.int tt), .unset, .unset, .unset, .unset, .unset, .unset, .unset, .unset, .unset] [(.int (1 : Int32)), (.int mm)])) (T0.setTop (mkF m 338 #[.val (.int p1), .val (.long p2), .second, .val (.long p3), .second, .val (.long p4), .second, .val (.int sl), .val (.ref b1), .val (.ref b2), .val (.int mm), .val (.int kk), .val (.int nm), .val (.int qq), .val (.int x1), .val (.int x2), .val (.int y1), .val (.int y2), .val (.int z1), .val (.int z2), .val (.ref oa), .val (.ref ob), .val (.ref oc), .val (.ref oa), .val (.ref oa), .val (.int tt), .unset, .unset, .unset, .unset, .unset, .unset, .unset, .unset, .unset] [(.int (0 : Int32))])) := by
        refine q0.trans ?_
        show Steps p.tables e below (T0.setTop (mkF m 330 #[.val (.int p1), .val (.long p2), .second, .val (.long p3), .second, .val (.long p4), .second, .val (.int sl), .val (.ref b1), .val (.ref b2), .val (.int mm), .val (.int kk), .val (.int nm), .val (.int qq), .val (.int x1), .val (.int x2), .val (.int y1), .val (.int y2), .val (.int z1), .val (.int z2), .val (.ref oa), .val (.ref ob), .val (.ref oc), .val (.ref oa), .val (.ref oa), .val (.int tt), .unset, .unset, .unset, .unset, .unset, .unset, .unset, .unset, .unset] [(.int (1 : Int32)), (.int mm)])) _
        refine XS.icmpYes X0.here hx rfl (pc0 := 330) (pc' := 337) rfl (hb hby at_330) rfl (tlt hf336).1 (by decide) (by decide) ?_
        show Steps p.tables e below (T0.setTop (mkF m 337 #[.val (.int p1), .val (.long p2), .second, .val (.long p3), .second, .val (.long p4), .second, .val (.int sl), .val (.ref b1), .val (.ref b2), .val (.int mm), .val (.int kk), .val (.int nm), .val (.int qq), .val (.int x1), .val (.int x2), .val (.int y1), .val (.int y2), .val (.int z1), .val (.int z2), .val (.ref oa), .val (.ref ob), .val (.ref oc), .val (.ref oa), .val (.ref oa), .val (.int tt), .unset, .unset, .unset, .unset, .unset, .unset, .unset, .unset, .unset] [])) _
        refine XS.iconst X0.here hx rfl (hb hby at_337) ?_
        exact Steps.refl _
      exact r337
    · skip
      rw [show (if mm < (1 : Int32) then (0 : Int32) else (1 : Int32)) = (1 : Int32) from if_neg hf336]
      have q0 : Steps p.tables e below (T0.setTop (mkF m 330 #[.val (.int p1), .val (.long p2), .second, .val (.long p3), .second, .val (.long p4), .second, .val (.int sl), .val (.ref b1), .val (.ref b2), .val (.int mm), .val (.int kk), .val (.int nm), .val (.int qq), .val (.int x1), .val (.int x2), .val (.int y1), .val (.int y2), .val (.int z1), .val (.int z2), .val (.ref oa), .val (.ref ob), .val (.ref oc), .val (.ref oa), .val (.ref oa), .val (.int tt), .unset, .unset, .unset, .unset, .unset, .unset, .unset, .unset, .unset] [(.int (1 : Int32)), (.int mm)])) (T0.setTop (mkF m 330 #[.val (.int p1), .val (.long p2), .second, .val (.long p3), .second, .val (.long p4), .second, .val (.int sl), .val (.ref b1), .val (.ref b2), .val (.int mm), .val (.int kk), .val (.int nm), .val (.int qq), .val (.int x1), .val (.int x2), .val (.int y1), .val (.int y2), .val (.int z1), .val (.int z2), .val (.ref oa), .val (.ref ob), .val (.ref oc), .val (.ref oa), .val (.ref oa), .val (.int tt), .unset, .unset, .unset, .unset, .unset, .unset, .unset, .unset, .unset] [(.int (1 : Int32)), (.int mm)])) := Steps.refl _
      have r338 : Steps p.tables e below (T0.setTop (mkF m 330 #[.val (.int p1), .val (.long p2), .second, .val (.long p3), .second, .val (.long p4), .second, .val (.int sl), .val (.ref b1), .val (.ref b2), .val (.int mm), .val (.int kk), .val (.int nm), .val (.int qq), .val (.int x1), .val (.int x2), .val (.int y1), .val (.int y2), .val (.int z1), .val (.int z2), .val (.ref oa), .val (.ref ob), .val (.ref oc), .val (.ref oa), .val (.ref oa), .val (.int tt), .unset, .unset, .unset, .unset, .unset, .unset, .unset, .unset, .unset] [(.int (1 : Int32)), (.int mm)])) (T0.setTop (mkF m 338 #[.val (.int p1), .val (.long p2), .second, .val (.long p3), .second, .val (.long p4), .second, .val (.int sl), .val (.ref b1), .val (.ref b2), .val (.int mm), .val (.int kk), .val (.int nm), .val (.int qq), .val (.int x1), .val (.int x2), .val (.int y1), .val (.int y2), .val (.int z1), .val (.int z2), .val (.ref oa), .val (.ref ob), .val (.ref oc), .val (.ref oa), .val (.ref oa), .val (.int tt), .unset, .unset, .unset, .unset, .unset, .unset, .unset, .unset, .unset] [(.int (1 : Int32))])) := by
        refine q0.trans ?_
        show Steps p.tables e below (T0.setTop (mkF m 330 #[.val (.int p1), .val (.long p2), .second, .val (.long p3), .second, .val (.long p4), .second, .val (.int sl), .val (.ref b1), .val (.ref b2), .val (.int mm), .val (.int kk), .val (.int nm), .val (.int qq), .val (.int x1), .val (.int x2), .val (.int y1), .val (.int y2), .val (.int z1), .val (.int z2), .val (.ref oa), .val (.ref ob), .val (.ref oc), .val (.ref oa), .val (.ref oa), .val (.int tt), .unset, .unset, .unset, .unset, .unset, .unset, .unset, .unset, .unset] [(.int (1 : Int32)), (.int mm)])) _
        refine XS.icmpNo X0.here hx rfl (hb hby at_330) rfl (flt hf336).1 ?_
        show Steps p.tables e below (T0.setTop (mkF m 333 #[.val (.int p1), .val (.long p2), .second, .val (.long p3), .second, .val (.long p4), .second, .val (.int sl), .val (.ref b1), .val (.ref b2), .val (.int mm), .val (.int kk), .val (.int nm), .val (.int qq), .val (.int x1), .val (.int x2), .val (.int y1), .val (.int y2), .val (.int z1), .val (.int z2), .val (.ref oa), .val (.ref ob), .val (.ref oc), .val (.ref oa), .val (.ref oa), .val (.int tt), .unset, .unset, .unset, .unset, .unset, .unset, .unset, .unset, .unset] [])) _
        refine XS.iconst X0.here hx rfl (hb hby at_333) ?_
        show Steps p.tables e below (T0.setTop (mkF m 334 #[.val (.int p1), .val (.long p2), .second, .val (.long p3), .second, .val (.long p4), .second, .val (.int sl), .val (.ref b1), .val (.ref b2), .val (.int mm), .val (.int kk), .val (.int nm), .val (.int qq), .val (.int x1), .val (.int x2), .val (.int y1), .val (.int y2), .val (.int z1), .val (.int z2), .val (.ref oa), .val (.ref ob), .val (.ref oc), .val (.ref oa), .val (.ref oa), .val (.int tt), .unset, .unset, .unset, .unset, .unset, .unset, .unset, .unset, .unset] [(.int (1 : Int32))])) _
        refine XS.goto X0.here hx rfl (pc0 := 334) (pc' := 338) rfl (hb hby at_334) (by decide) (by decide) ?_
        exact Steps.refl _
      exact r338
  obtain ⟨v0, hv0, tv0⟩ := own_val (m := mm) (c := 1) bx1
  rw [← hB0] at tv0
  have r340 : Steps p.tables e below S0 (T0.setTop (mkF m 340 #[.val (.int p1), .val (.long p2), .second, .val (.long p3), .second, .val (.long p4), .second, .val (.int sl), .val (.ref b1), .val (.ref b2), .val (.int mm), .val (.int kk), .val (.int nm), .val (.int qq), .val (.int x1), .val (.int x2), .val (.int y1), .val (.int y2), .val (.int z1), .val (.int z2), .val (.ref oa), .val (.ref ob), .val (.ref oc), .val (.ref oa), .val (.ref oa), .val (.int tt), .unset, .unset, .unset, .unset, .unset, .unset, .unset, .unset, .unset] [(.int x1), (.int (if mm < (1 : Int32) then (0 : Int32) else (1 : Int32)))])) := by
    refine r339.trans ?_
    show Steps p.tables e below (T0.setTop (mkF m 338 #[.val (.int p1), .val (.long p2), .second, .val (.long p3), .second, .val (.long p4), .second, .val (.int sl), .val (.ref b1), .val (.ref b2), .val (.int mm), .val (.int kk), .val (.int nm), .val (.int qq), .val (.int x1), .val (.int x2), .val (.int y1), .val (.int y2), .val (.int z1), .val (.int z2), .val (.ref oa), .val (.ref ob), .val (.ref oc), .val (.ref oa), .val (.ref oa), .val (.int tt), .unset, .unset, .unset, .unset, .unset, .unset, .unset, .unset, .unset] [(.int (if mm < (1 : Int32) then (0 : Int32) else (1 : Int32)))])) _
    refine XS.iload X0.here hx rfl (hb hby at_338) rfl ?_
    exact Steps.refl _
  obtain ⟨_, _, ⟨T341, L341, k341, n341⟩, -, X341, ⟨Lc341, hQ341, l341, y341, z341⟩, st341⟩ := Jvm.LawKit.callS X0 hx (y := (⟨"org/rowfold/aggregate/MomentsCombinePinLaw", "val", "(ZI)J"⟩ : MethodName)) hown (mvT hZ (hw _ (List.mem_of_getElem? (i := 22) rfl))) (mvT hZ (hw _ (List.mem_of_getElem? (i := 23) rfl))) (mvT hZ (hw _ (List.mem_of_getElem? (i := 4) rfl))) (mvT hZ (hw _ (List.mem_of_getElem? (i := 24) rfl))) (by decide) (backOf (W := 0) (rmVa l Z a0 hw [] (if mm < (1 : Int32) then (0 : Int32) else (1 : Int32)) x1 v0 h0 n0 Z0 hv0) hZ (hw _ (List.mem_of_getElem? (i := 24) rfl)) (hw _ (List.mem_of_getElem? (i := 4) rfl)) (by decide) (by decide)) (g := (mkF m 340 #[.val (.int p1), .val (.long p2), .second, .val (.long p3), .second, .val (.long p4), .second, .val (.int sl), .val (.ref b1), .val (.ref b2), .val (.int mm), .val (.int kk), .val (.int nm), .val (.int qq), .val (.int x1), .val (.int x2), .val (.int y1), .val (.int y2), .val (.int z1), .val (.int z2), .val (.ref oa), .val (.ref ob), .val (.ref oc), .val (.ref oa), .val (.ref oa), .val (.int tt), .unset, .unset, .unset, .unset, .unset, .unset, .unset, .unset, .unset] [(.int x1), (.int (if mm < (1 : Int32) then (0 : Int32) else (1 : Int32)))])) rfl (by rw [hml]; rfl) (argsL := [(.int (if mm < (1 : Int32) then (0 : Int32) else (1 : Int32))), (.int x1)]) (rest := []) (lenOf pd_6 rfl) rfl (by show 2 * 0 + _ ≤ _; exact Nat.le_of_eq rfl) (hb hby at_340) (fun _ _ => ⟨rfl, e0, (by decide : 5 + 0 ≤ _), (by decide : 23 + 0 ≤ _)⟩)
  dsimp only [Pt.U, Pt.locs, Pt.cells, Pt.slots] at X341 l341 y341 z341 st341 hQ341
  subst l341 y341 z341
  obtain ⟨rfl, Nq341, e341⟩ := hQ341
  have N341 := Fr.app N0 Nq341
  have r342 : Steps p.tables e below S0 (T341.setTop (mkF m 343 #[.val (.int p1), .val (.long p2), .second, .val (.long p3), .second, .val (.long p4), .second, .val (.int sl), .val (.ref b1), .val (.ref b2), .val (.int mm), .val (.int kk), .val (.int nm), .val (.int qq), .val (.int x1), .val (.int x2), .val (.int y1), .val (.int y2), .val (.int z1), .val (.int z2), .val (.ref oa), .val (.ref ob), .val (.ref oc), .val (.ref oa), .val (.ref oa), .val (.int tt), .unset, .unset, .unset, .unset, .unset, .unset, .unset, .unset, .unset] [(.long v0)])) := r340.trans (st341 _ (Steps.refl _))
  have r343 : Steps p.tables e below S0 (T341.setTop (mkF m 346 #[.val (.int p1), .val (.long p2), .second, .val (.long p3), .second, .val (.long p4), .second, .val (.int sl), .val (.ref b1), .val (.ref b2), .val (.int mm), .val (.int kk), .val (.int nm), .val (.int qq), .val (.int x1), .val (.int x2), .val (.int y1), .val (.int y2), .val (.int z1), .val (.int z2), .val (.ref oa), .val (.ref ob), .val (.ref oc), .val (.ref oa), .val (.ref oa), .val (.int tt), .unset, .unset, .unset, .unset, .unset, .unset, .unset, .unset, .unset] [(.int (2 : Int32)), (.int mm), (.long v0)])) := by
    refine r342.trans ?_
    show Steps p.tables e below (T341.setTop (mkF m 343 #[.val (.int p1), .val (.long p2), .second, .val (.long p3), .second, .val (.long p4), .second, .val (.int sl), .val (.ref b1), .val (.ref b2), .val (.int mm), .val (.int kk), .val (.int nm), .val (.int qq), .val (.int x1), .val (.int x2), .val (.int y1), .val (.int y2), .val (.int z1), .val (.int z2), .val (.ref oa), .val (.ref ob), .val (.ref oc), .val (.ref oa), .val (.ref oa), .val (.int tt), .unset, .unset, .unset, .unset, .unset, .unset, .unset, .unset, .unset] [(.long v0)])) _
    refine XS.iload X341.here hx rfl (hb hby at_343) rfl ?_
    show Steps p.tables e below (T341.setTop (mkF m 345 #[.val (.int p1), .val (.long p2), .second, .val (.long p3), .second, .val (.long p4), .second, .val (.int sl), .val (.ref b1), .val (.ref b2), .val (.int mm), .val (.int kk), .val (.int nm), .val (.int qq), .val (.int x1), .val (.int x2), .val (.int y1), .val (.int y2), .val (.int z1), .val (.int z2), .val (.ref oa), .val (.ref ob), .val (.ref oc), .val (.ref oa), .val (.ref oa), .val (.int tt), .unset, .unset, .unset, .unset, .unset, .unset, .unset, .unset, .unset] [(.int mm), (.long v0)])) _
    refine XS.iconst X341.here hx rfl (hb hby at_345) ?_
    exact Steps.refl _
  have r347 : Steps p.tables e below S0 (T341.setTop (mkF m 354 #[.val (.int p1), .val (.long p2), .second, .val (.long p3), .second, .val (.long p4), .second, .val (.int sl), .val (.ref b1), .val (.ref b2), .val (.int mm), .val (.int kk), .val (.int nm), .val (.int qq), .val (.int x1), .val (.int x2), .val (.int y1), .val (.int y2), .val (.int z1), .val (.int z2), .val (.ref oa), .val (.ref ob), .val (.ref oc), .val (.ref oa), .val (.ref oa), .val (.int tt), .unset, .unset, .unset, .unset, .unset, .unset, .unset, .unset, .unset] [(.int (if mm < (2 : Int32) then (0 : Int32) else (1 : Int32))), (.long v0)])) := by
    refine r343.trans ?_
    by_cases hf344 : mm < (2 : Int32)
    · skip
      rw [show (if mm < (2 : Int32) then (0 : Int32) else (1 : Int32)) = (0 : Int32) from if_pos hf344]
      have q0 : Steps p.tables e below (T341.setTop (mkF m 346 #[.val (.int p1), .val (.long p2), .second, .val (.long p3), .second, .val (.long p4), .second, .val (.int sl), .val (.ref b1), .val (.ref b2), .val (.int mm), .val (.int kk), .val (.int nm), .val (.int qq), .val (.int x1), .val (.int x2), .val (.int y1), .val (.int y2), .val (.int z1), .val (.int z2), .val (.ref oa), .val (.ref ob), .val (.ref oc), .val (.ref oa), .val (.ref oa), .val (.int tt), .unset, .unset, .unset, .unset, .unset, .unset, .unset, .unset, .unset] [(.int (2 : Int32)), (.int mm), (.long v0)])) (T341.setTop (mkF m 346 #[.val (.int p1), .val (.long p2), .second, .val (.long p3), .second, .val (.long p4), .second, .val (.int sl), .val (.ref b1), .val (.ref b2), .val (.int mm), .val (.int kk), .val (.int nm), .val (.int qq), .val (.int x1), .val (.int x2), .val (.int y1), .val (.int y2), .val (.int z1), .val (.int z2), .val (.ref oa), .val (.ref ob), .val (.ref oc), .val (.ref oa), .val (.ref oa), .val (.int tt), .unset, .unset, .unset, .unset, .unset, .unset, .unset, .unset, .unset] [(.int (2 : Int32)), (.int mm), (.long v0)])) := Steps.refl _
      have r345 : Steps p.tables e below (T341.setTop (mkF m 346 #[.val (.int p1), .val (.long p2), .second, .val (.long p3), .second, .val (.long p4), .second, .val (.int sl), .val (.ref b1), .val (.ref b2), .val (.int mm), .val (.int kk), .val (.int nm), .val (.int qq), .val (.int x1), .val (.int x2), .val (.int y1), .val (.int y2), .val (.int z1), .val (.int z2), .val (.ref oa), .val (.ref ob), .val (.ref oc), .val (.ref oa), .val (.ref oa), .val (.int tt), .unset, .unset, .unset, .unset, .unset, .unset, .unset, .unset, .unset] [(.int (2 : Int32)), (.int mm), (.long v0)])) (T341.setTop (mkF m 354 #[.val (.int p1), .val (.long p2), .second, .val (.long p3), .second, .val (.long p4), .second, .val (.int sl), .val (.ref b1), .val (.ref b2), .val (.int mm), .val (.int kk), .val (.int nm), .val (.int qq), .val (.int x1), .val (.int x2), .val (.int y1), .val (.int y2), .val (.int z1), .val (.int z2), .val (.ref oa), .val (.ref ob), .val (.ref oc), .val (.ref oa), .val (.ref oa), .val (.int tt), .unset, .unset, .unset, .unset, .unset, .unset, .unset, .unset, .unset] [(.int (0 : Int32)), (.long v0)])) := by
        refine q0.trans ?_
        show Steps p.tables e below (T341.setTop (mkF m 346 #[.val (.int p1), .val (.long p2), .second, .val (.long p3), .second, .val (.long p4), .second, .val (.int sl), .val (.ref b1), .val (.ref b2), .val (.int mm), .val (.int kk), .val (.int nm), .val (.int qq), .val (.int x1), .val (.int x2), .val (.int y1), .val (.int y2), .val (.int z1), .val (.int z2), .val (.ref oa), .val (.ref ob), .val (.ref oc), .val (.ref oa), .val (.ref oa), .val (.int tt), .unset, .unset, .unset, .unset, .unset, .unset, .unset, .unset, .unset] [(.int (2 : Int32)), (.int mm), (.long v0)])) _
        refine XS.icmpYes X341.here hx rfl (pc0 := 346) (pc' := 353) rfl (hb hby at_346) rfl (tlt hf344).1 (by decide) (by decide) ?_
        show Steps p.tables e below (T341.setTop (mkF m 353 #[.val (.int p1), .val (.long p2), .second, .val (.long p3), .second, .val (.long p4), .second, .val (.int sl), .val (.ref b1), .val (.ref b2), .val (.int mm), .val (.int kk), .val (.int nm), .val (.int qq), .val (.int x1), .val (.int x2), .val (.int y1), .val (.int y2), .val (.int z1), .val (.int z2), .val (.ref oa), .val (.ref ob), .val (.ref oc), .val (.ref oa), .val (.ref oa), .val (.int tt), .unset, .unset, .unset, .unset, .unset, .unset, .unset, .unset, .unset] [(.long v0)])) _
        refine XS.iconst X341.here hx rfl (hb hby at_353) ?_
        exact Steps.refl _
      exact r345
    · skip
      rw [show (if mm < (2 : Int32) then (0 : Int32) else (1 : Int32)) = (1 : Int32) from if_neg hf344]
      have q0 : Steps p.tables e below (T341.setTop (mkF m 346 #[.val (.int p1), .val (.long p2), .second, .val (.long p3), .second, .val (.long p4), .second, .val (.int sl), .val (.ref b1), .val (.ref b2), .val (.int mm), .val (.int kk), .val (.int nm), .val (.int qq), .val (.int x1), .val (.int x2), .val (.int y1), .val (.int y2), .val (.int z1), .val (.int z2), .val (.ref oa), .val (.ref ob), .val (.ref oc), .val (.ref oa), .val (.ref oa), .val (.int tt), .unset, .unset, .unset, .unset, .unset, .unset, .unset, .unset, .unset] [(.int (2 : Int32)), (.int mm), (.long v0)])) (T341.setTop (mkF m 346 #[.val (.int p1), .val (.long p2), .second, .val (.long p3), .second, .val (.long p4), .second, .val (.int sl), .val (.ref b1), .val (.ref b2), .val (.int mm), .val (.int kk), .val (.int nm), .val (.int qq), .val (.int x1), .val (.int x2), .val (.int y1), .val (.int y2), .val (.int z1), .val (.int z2), .val (.ref oa), .val (.ref ob), .val (.ref oc), .val (.ref oa), .val (.ref oa), .val (.int tt), .unset, .unset, .unset, .unset, .unset, .unset, .unset, .unset, .unset] [(.int (2 : Int32)), (.int mm), (.long v0)])) := Steps.refl _
      have r346 : Steps p.tables e below (T341.setTop (mkF m 346 #[.val (.int p1), .val (.long p2), .second, .val (.long p3), .second, .val (.long p4), .second, .val (.int sl), .val (.ref b1), .val (.ref b2), .val (.int mm), .val (.int kk), .val (.int nm), .val (.int qq), .val (.int x1), .val (.int x2), .val (.int y1), .val (.int y2), .val (.int z1), .val (.int z2), .val (.ref oa), .val (.ref ob), .val (.ref oc), .val (.ref oa), .val (.ref oa), .val (.int tt), .unset, .unset, .unset, .unset, .unset, .unset, .unset, .unset, .unset] [(.int (2 : Int32)), (.int mm), (.long v0)])) (T341.setTop (mkF m 354 #[.val (.int p1), .val (.long p2), .second, .val (.long p3), .second, .val (.long p4), .second, .val (.int sl), .val (.ref b1), .val (.ref b2), .val (.int mm), .val (.int kk), .val (.int nm), .val (.int qq), .val (.int x1), .val (.int x2), .val (.int y1), .val (.int y2), .val (.int z1), .val (.int z2), .val (.ref oa), .val (.ref ob), .val (.ref oc), .val (.ref oa), .val (.ref oa), .val (.int tt), .unset, .unset, .unset, .unset, .unset, .unset, .unset, .unset, .unset] [(.int (1 : Int32)), (.long v0)])) := by
        refine q0.trans ?_
        show Steps p.tables e below (T341.setTop (mkF m 346 #[.val (.int p1), .val (.long p2), .second, .val (.long p3), .second, .val (.long p4), .second, .val (.int sl), .val (.ref b1), .val (.ref b2), .val (.int mm), .val (.int kk), .val (.int nm), .val (.int qq), .val (.int x1), .val (.int x2), .val (.int y1), .val (.int y2), .val (.int z1), .val (.int z2), .val (.ref oa), .val (.ref ob), .val (.ref oc), .val (.ref oa), .val (.ref oa), .val (.int tt), .unset, .unset, .unset, .unset, .unset, .unset, .unset, .unset, .unset] [(.int (2 : Int32)), (.int mm), (.long v0)])) _
        refine XS.icmpNo X341.here hx rfl (hb hby at_346) rfl (flt hf344).1 ?_
        show Steps p.tables e below (T341.setTop (mkF m 349 #[.val (.int p1), .val (.long p2), .second, .val (.long p3), .second, .val (.long p4), .second, .val (.int sl), .val (.ref b1), .val (.ref b2), .val (.int mm), .val (.int kk), .val (.int nm), .val (.int qq), .val (.int x1), .val (.int x2), .val (.int y1), .val (.int y2), .val (.int z1), .val (.int z2), .val (.ref oa), .val (.ref ob), .val (.ref oc), .val (.ref oa), .val (.ref oa), .val (.int tt), .unset, .unset, .unset, .unset, .unset, .unset, .unset, .unset, .unset] [(.long v0)])) _
        refine XS.iconst X341.here hx rfl (hb hby at_349) ?_
        show Steps p.tables e below (T341.setTop (mkF m 350 #[.val (.int p1), .val (.long p2), .second, .val (.long p3), .second, .val (.long p4), .second, .val (.int sl), .val (.ref b1), .val (.ref b2), .val (.int mm), .val (.int kk), .val (.int nm), .val (.int qq), .val (.int x1), .val (.int x2), .val (.int y1), .val (.int y2), .val (.int z1), .val (.int z2), .val (.ref oa), .val (.ref ob), .val (.ref oc), .val (.ref oa), .val (.ref oa), .val (.int tt), .unset, .unset, .unset, .unset, .unset, .unset, .unset, .unset, .unset] [(.int (1 : Int32)), (.long v0)])) _
        refine XS.goto X341.here hx rfl (pc0 := 350) (pc' := 354) rfl (hb hby at_350) (by decide) (by decide) ?_
        exact Steps.refl _
      exact r346
  obtain ⟨v1, hv1, tv1⟩ := own_val (m := mm) (c := 2) bx2
  rw [← hB1] at tv1
  have r348 : Steps p.tables e below S0 (T341.setTop (mkF m 356 #[.val (.int p1), .val (.long p2), .second, .val (.long p3), .second, .val (.long p4), .second, .val (.int sl), .val (.ref b1), .val (.ref b2), .val (.int mm), .val (.int kk), .val (.int nm), .val (.int qq), .val (.int x1), .val (.int x2), .val (.int y1), .val (.int y2), .val (.int z1), .val (.int z2), .val (.ref oa), .val (.ref ob), .val (.ref oc), .val (.ref oa), .val (.ref oa), .val (.int tt), .unset, .unset, .unset, .unset, .unset, .unset, .unset, .unset, .unset] [(.int x2), (.int (if mm < (2 : Int32) then (0 : Int32) else (1 : Int32))), (.long v0)])) := by
    refine r347.trans ?_
    show Steps p.tables e below (T341.setTop (mkF m 354 #[.val (.int p1), .val (.long p2), .second, .val (.long p3), .second, .val (.long p4), .second, .val (.int sl), .val (.ref b1), .val (.ref b2), .val (.int mm), .val (.int kk), .val (.int nm), .val (.int qq), .val (.int x1), .val (.int x2), .val (.int y1), .val (.int y2), .val (.int z1), .val (.int z2), .val (.ref oa), .val (.ref ob), .val (.ref oc), .val (.ref oa), .val (.ref oa), .val (.int tt), .unset, .unset, .unset, .unset, .unset, .unset, .unset, .unset, .unset] [(.int (if mm < (2 : Int32) then (0 : Int32) else (1 : Int32))), (.long v0)])) _
    refine XS.iload X341.here hx rfl (hb hby at_354) rfl ?_
    exact Steps.refl _
  obtain ⟨_, _, ⟨T349, L349, k349, n349⟩, -, X349, ⟨Lc349, hQ349, l349, y349, z349⟩, st349⟩ := Jvm.LawKit.callS X341 hx (y := (⟨"org/rowfold/aggregate/MomentsCombinePinLaw", "val", "(ZI)J"⟩ : MethodName)) hown (mvT hZ (hw _ (List.mem_of_getElem? (i := 22) rfl))) (mvT hZ (hw _ (List.mem_of_getElem? (i := 23) rfl))) (mvT hZ (hw _ (List.mem_of_getElem? (i := 4) rfl))) (mvT hZ (hw _ (List.mem_of_getElem? (i := 24) rfl))) (by decide) (backOf (W := 2) (rmVa l Z a0 hw [] (if mm < (2 : Int32) then (0 : Int32) else (1 : Int32)) x2 v1 h0 n0 Z0 hv1) hZ (hw _ (List.mem_of_getElem? (i := 24) rfl)) (hw _ (List.mem_of_getElem? (i := 4) rfl)) (by decide) (by decide)) (g := (mkF m 356 #[.val (.int p1), .val (.long p2), .second, .val (.long p3), .second, .val (.long p4), .second, .val (.int sl), .val (.ref b1), .val (.ref b2), .val (.int mm), .val (.int kk), .val (.int nm), .val (.int qq), .val (.int x1), .val (.int x2), .val (.int y1), .val (.int y2), .val (.int z1), .val (.int z2), .val (.ref oa), .val (.ref ob), .val (.ref oc), .val (.ref oa), .val (.ref oa), .val (.int tt), .unset, .unset, .unset, .unset, .unset, .unset, .unset, .unset, .unset] [(.int x2), (.int (if mm < (2 : Int32) then (0 : Int32) else (1 : Int32))), (.long v0)])) rfl (by rw [hml]; rfl) (argsL := [(.int (if mm < (2 : Int32) then (0 : Int32) else (1 : Int32))), (.int x2)]) (rest := [(.long v0)]) (lenOf pd_6 rfl) rfl (by show 2 * 0 + _ ≤ _; exact Nat.le_of_eq rfl) (hb hby at_356) (fun _ _ => ⟨rfl, e341, (by decide : (5 + 0) + 0 ≤ _), (by decide : (23 + 0) + 0 ≤ _)⟩)
  dsimp only [Pt.U, Pt.locs, Pt.cells, Pt.slots] at X349 l349 y349 z349 st349 hQ349
  subst l349 y349 z349
  obtain ⟨rfl, Nq349, e349⟩ := hQ349
  have N349 := Fr.app N341 Nq349
  have r350 : Steps p.tables e below S0 (T349.setTop (mkF m 359 #[.val (.int p1), .val (.long p2), .second, .val (.long p3), .second, .val (.long p4), .second, .val (.int sl), .val (.ref b1), .val (.ref b2), .val (.int mm), .val (.int kk), .val (.int nm), .val (.int qq), .val (.int x1), .val (.int x2), .val (.int y1), .val (.int y2), .val (.int z1), .val (.int z2), .val (.ref oa), .val (.ref ob), .val (.ref oc), .val (.ref oa), .val (.ref oa), .val (.int tt), .unset, .unset, .unset, .unset, .unset, .unset, .unset, .unset, .unset] [(.long v1), (.long v0)])) := r348.trans (st349 _ (Steps.refl _))
  have r351 : Steps p.tables e below S0 (T349.setTop (mkF m 363 #[.val (.int p1), .val (.long p2), .second, .val (.long p3), .second, .val (.long p4), .second, .val (.int sl), .val (.ref b1), .val (.ref b2), .val (.int mm), .val (.int kk), .val (.int nm), .val (.int qq), .val (.int x1), .val (.int x2), .val (.int y1), .val (.int y2), .val (.int z1), .val (.int z2), .val (.ref oa), .val (.ref ob), .val (.ref oc), .val (.ref oa), .val (.ref oa), .val (.int tt), .unset, .unset, .unset, .unset, .unset, .unset, .unset, .unset, .unset] [(.int (1 : Int32)), (.int kk), (.long (v0 + v1))])) := by
    refine r350.trans ?_
    show Steps p.tables e below (T349.setTop (mkF m 359 #[.val (.int p1), .val (.long p2), .second, .val (.long p3), .second, .val (.long p4), .second, .val (.int sl), .val (.ref b1), .val (.ref b2), .val (.int mm), .val (.int kk), .val (.int nm), .val (.int qq), .val (.int x1), .val (.int x2), .val (.int y1), .val (.int y2), .val (.int z1), .val (.int z2), .val (.ref oa), .val (.ref ob), .val (.ref oc), .val (.ref oa), .val (.ref oa), .val (.int tt), .unset, .unset, .unset, .unset, .unset, .unset, .unset, .unset, .unset] [(.long v1), (.long v0)])) _
    refine XS.ladd X349.here hx rfl (hb hby at_359) rfl ?_
    show Steps p.tables e below (T349.setTop (mkF m 360 #[.val (.int p1), .val (.long p2), .second, .val (.long p3), .second, .val (.long p4), .second, .val (.int sl), .val (.ref b1), .val (.ref b2), .val (.int mm), .val (.int kk), .val (.int nm), .val (.int qq), .val (.int x1), .val (.int x2), .val (.int y1), .val (.int y2), .val (.int z1), .val (.int z2), .val (.ref oa), .val (.ref ob), .val (.ref oc), .val (.ref oa), .val (.ref oa), .val (.int tt), .unset, .unset, .unset, .unset, .unset, .unset, .unset, .unset, .unset] [(.long (v0 + v1))])) _
    refine XS.iload X349.here hx rfl (hb hby at_360) rfl ?_
    show Steps p.tables e below (T349.setTop (mkF m 362 #[.val (.int p1), .val (.long p2), .second, .val (.long p3), .second, .val (.long p4), .second, .val (.int sl), .val (.ref b1), .val (.ref b2), .val (.int mm), .val (.int kk), .val (.int nm), .val (.int qq), .val (.int x1), .val (.int x2), .val (.int y1), .val (.int y2), .val (.int z1), .val (.int z2), .val (.ref oa), .val (.ref ob), .val (.ref oc), .val (.ref oa), .val (.ref oa), .val (.int tt), .unset, .unset, .unset, .unset, .unset, .unset, .unset, .unset, .unset] [(.int kk), (.long (v0 + v1))])) _
    refine XS.iconst X349.here hx rfl (hb hby at_362) ?_
    exact Steps.refl _
  have r355 : Steps p.tables e below S0 (T349.setTop (mkF m 371 #[.val (.int p1), .val (.long p2), .second, .val (.long p3), .second, .val (.long p4), .second, .val (.int sl), .val (.ref b1), .val (.ref b2), .val (.int mm), .val (.int kk), .val (.int nm), .val (.int qq), .val (.int x1), .val (.int x2), .val (.int y1), .val (.int y2), .val (.int z1), .val (.int z2), .val (.ref oa), .val (.ref ob), .val (.ref oc), .val (.ref oa), .val (.ref oa), .val (.int tt), .unset, .unset, .unset, .unset, .unset, .unset, .unset, .unset, .unset] [(.int (if kk < (1 : Int32) then (0 : Int32) else (1 : Int32))), (.long (v0 + v1))])) := by
    refine r351.trans ?_
    by_cases hf352 : kk < (1 : Int32)
    · skip
      rw [show (if kk < (1 : Int32) then (0 : Int32) else (1 : Int32)) = (0 : Int32) from if_pos hf352]
      have q0 : Steps p.tables e below (T349.setTop (mkF m 363 #[.val (.int p1), .val (.long p2), .second, .val (.long p3), .second, .val (.long p4), .second, .val (.int sl), .val (.ref b1), .val (.ref b2), .val (.int mm), .val (.int kk), .val (.int nm), .val (.int qq), .val (.int x1), .val (.int x2), .val (.int y1), .val (.int y2), .val (.int z1), .val (.int z2), .val (.ref oa), .val (.ref ob), .val (.ref oc), .val (.ref oa), .val (.ref oa), .val (.int tt), .unset, .unset, .unset, .unset, .unset, .unset, .unset, .unset, .unset] [(.int (1 : Int32)), (.int kk), (.long (v0 + v1))])) (T349.setTop (mkF m 363 #[.val (.int p1), .val (.long p2), .second, .val (.long p3), .second, .val (.long p4), .second, .val (.int sl), .val (.ref b1), .val (.ref b2), .val (.int mm), .val (.int kk), .val (.int nm), .val (.int qq), .val (.int x1), .val (.int x2), .val (.int y1), .val (.int y2), .val (.int z1), .val (.int z2), .val (.ref oa), .val (.ref ob), .val (.ref oc), .val (.ref oa), .val (.ref oa), .val (.int tt), .unset, .unset, .unset, .unset, .unset, .unset, .unset, .unset, .unset] [(.int (1 : Int32)), (.int kk), (.long (v0 + v1))])) := Steps.refl _
      have r353 : Steps p.tables e below (T349.setTop (mkF m 363 #[.val (.int p1), .val (.long p2), .second, .val (.long p3), .second, .val (.long p4), .second, .val (.int sl), .val (.ref b1), .val (.ref b2), .val (.int mm), .val (.int kk), .val (.int nm), .val (.int qq), .val (.int x1), .val (.int x2), .val (.int y1), .val (.int y2), .val (.int z1), .val (.int z2), .val (.ref oa), .val (.ref ob), .val (.ref oc), .val (.ref oa), .val (.ref oa), .val (.int tt), .unset, .unset, .unset, .unset, .unset, .unset, .unset, .unset, .unset] [(.int (1 : Int32)), (.int kk), (.long (v0 + v1))])) (T349.setTop (mkF m 371 #[.val (.int p1), .val (.long p2), .second, .val (.long p3), .second, .val (.long p4), .second, .val (.int sl), .val (.ref b1), .val (.ref b2), .val (.int mm), .val (.int kk), .val (.int nm), .val (.int qq), .val (.int x1), .val (.int x2), .val (.int y1), .val (.int y2), .val (.int z1), .val (.int z2), .val (.ref oa), .val (.ref ob), .val (.ref oc), .val (.ref oa), .val (.ref oa), .val (.int tt), .unset, .unset, .unset, .unset, .unset, .unset, .unset, .unset, .unset] [(.int (0 : Int32)), (.long (v0 + v1))])) := by
        refine q0.trans ?_
        show Steps p.tables e below (T349.setTop (mkF m 363 #[.val (.int p1), .val (.long p2), .second, .val (.long p3), .second, .val (.long p4), .second, .val (.int sl), .val (.ref b1), .val (.ref b2), .val (.int mm), .val (.int kk), .val (.int nm), .val (.int qq), .val (.int x1), .val (.int x2), .val (.int y1), .val (.int y2), .val (.int z1), .val (.int z2), .val (.ref oa), .val (.ref ob), .val (.ref oc), .val (.ref oa), .val (.ref oa), .val (.int tt), .unset, .unset, .unset, .unset, .unset, .unset, .unset, .unset, .unset] [(.int (1 : Int32)), (.int kk), (.long (v0 + v1))])) _
        refine XS.icmpYes X349.here hx rfl (pc0 := 363) (pc' := 370) rfl (hb hby at_363) rfl (tlt hf352).1 (by decide) (by decide) ?_
        show Steps p.tables e below (T349.setTop (mkF m 370 #[.val (.int p1), .val (.long p2), .second, .val (.long p3), .second, .val (.long p4), .second, .val (.int sl), .val (.ref b1), .val (.ref b2), .val (.int mm), .val (.int kk), .val (.int nm), .val (.int qq), .val (.int x1), .val (.int x2), .val (.int y1), .val (.int y2), .val (.int z1), .val (.int z2), .val (.ref oa), .val (.ref ob), .val (.ref oc), .val (.ref oa), .val (.ref oa), .val (.int tt), .unset, .unset, .unset, .unset, .unset, .unset, .unset, .unset, .unset] [(.long (v0 + v1))])) _
        refine XS.iconst X349.here hx rfl (hb hby at_370) ?_
        exact Steps.refl _
      exact r353
    · skip
      rw [show (if kk < (1 : Int32) then (0 : Int32) else (1 : Int32)) = (1 : Int32) from if_neg hf352]
      have q0 : Steps p.tables e below (T349.setTop (mkF m 363 #[.val (.int p1), .val (.long p2), .second, .val (.long p3), .second, .val (.long p4), .second, .val (.int sl), .val (.ref b1), .val (.ref b2), .val (.int mm), .val (.int kk), .val (.int nm), .val (.int qq), .val (.int x1), .val (.int x2), .val (.int y1), .val (.int y2), .val (.int z1), .val (.int z2), .val (.ref oa), .val (.ref ob), .val (.ref oc), .val (.ref oa), .val (.ref oa), .val (.int tt), .unset, .unset, .unset, .unset, .unset, .unset, .unset, .unset, .unset] [(.int (1 : Int32)), (.int kk), (.long (v0 + v1))])) (T349.setTop (mkF m 363 #[.val (.int p1), .val (.long p2), .second, .val (.long p3), .second, .val (.long p4), .second, .val (.int sl), .val (.ref b1), .val (.ref b2), .val (.int mm), .val (.int kk), .val (.int nm), .val (.int qq), .val (.int x1), .val (.int x2), .val (.int y1), .val (.int y2), .val (.int z1), .val (.int z2), .val (.ref oa), .val (.ref ob), .val (.ref oc), .val (.ref oa), .val (.ref oa), .val (.int tt), .unset, .unset, .unset, .unset, .unset, .unset, .unset, .unset, .unset] [(.int (1 : Int32)), (.int kk), (.long (v0 + v1))])) := Steps.refl _
      have r354 : Steps p.tables e below (T349.setTop (mkF m 363 #[.val (.int p1), .val (.long p2), .second, .val (.long p3), .second, .val (.long p4), .second, .val (.int sl), .val (.ref b1), .val (.ref b2), .val (.int mm), .val (.int kk), .val (.int nm), .val (.int qq), .val (.int x1), .val (.int x2), .val (.int y1), .val (.int y2), .val (.int z1), .val (.int z2), .val (.ref oa), .val (.ref ob), .val (.ref oc), .val (.ref oa), .val (.ref oa), .val (.int tt), .unset, .unset, .unset, .unset, .unset, .unset, .unset, .unset, .unset] [(.int (1 : Int32)), (.int kk), (.long (v0 + v1))])) (T349.setTop (mkF m 371 #[.val (.int p1), .val (.long p2), .second, .val (.long p3), .second, .val (.long p4), .second, .val (.int sl), .val (.ref b1), .val (.ref b2), .val (.int mm), .val (.int kk), .val (.int nm), .val (.int qq), .val (.int x1), .val (.int x2), .val (.int y1), .val (.int y2), .val (.int z1), .val (.int z2), .val (.ref oa), .val (.ref ob), .val (.ref oc), .val (.ref oa), .val (.ref oa), .val (.int tt), .unset, .unset, .unset, .unset, .unset, .unset, .unset, .unset, .unset] [(.int (1 : Int32)), (.long (v0 + v1))])) := by
        refine q0.trans ?_
        show Steps p.tables e below (T349.setTop (mkF m 363 #[.val (.int p1), .val (.long p2), .second, .val (.long p3), .second, .val (.long p4), .second, .val (.int sl), .val (.ref b1), .val (.ref b2), .val (.int mm), .val (.int kk), .val (.int nm), .val (.int qq), .val (.int x1), .val (.int x2), .val (.int y1), .val (.int y2), .val (.int z1), .val (.int z2), .val (.ref oa), .val (.ref ob), .val (.ref oc), .val (.ref oa), .val (.ref oa), .val (.int tt), .unset, .unset, .unset, .unset, .unset, .unset, .unset, .unset, .unset] [(.int (1 : Int32)), (.int kk), (.long (v0 + v1))])) _
        refine XS.icmpNo X349.here hx rfl (hb hby at_363) rfl (flt hf352).1 ?_
        show Steps p.tables e below (T349.setTop (mkF m 366 #[.val (.int p1), .val (.long p2), .second, .val (.long p3), .second, .val (.long p4), .second, .val (.int sl), .val (.ref b1), .val (.ref b2), .val (.int mm), .val (.int kk), .val (.int nm), .val (.int qq), .val (.int x1), .val (.int x2), .val (.int y1), .val (.int y2), .val (.int z1), .val (.int z2), .val (.ref oa), .val (.ref ob), .val (.ref oc), .val (.ref oa), .val (.ref oa), .val (.int tt), .unset, .unset, .unset, .unset, .unset, .unset, .unset, .unset, .unset] [(.long (v0 + v1))])) _
        refine XS.iconst X349.here hx rfl (hb hby at_366) ?_
        show Steps p.tables e below (T349.setTop (mkF m 367 #[.val (.int p1), .val (.long p2), .second, .val (.long p3), .second, .val (.long p4), .second, .val (.int sl), .val (.ref b1), .val (.ref b2), .val (.int mm), .val (.int kk), .val (.int nm), .val (.int qq), .val (.int x1), .val (.int x2), .val (.int y1), .val (.int y2), .val (.int z1), .val (.int z2), .val (.ref oa), .val (.ref ob), .val (.ref oc), .val (.ref oa), .val (.ref oa), .val (.int tt), .unset, .unset, .unset, .unset, .unset, .unset, .unset, .unset, .unset] [(.int (1 : Int32)), (.long (v0 + v1))])) _
        refine XS.goto X349.here hx rfl (pc0 := 367) (pc' := 371) rfl (hb hby at_367) (by decide) (by decide) ?_
        exact Steps.refl _
      exact r354
  obtain ⟨v2, hv2, tv2⟩ := own_val (m := kk) (c := 1) by1
  rw [← hB2] at tv2
  have r356 : Steps p.tables e below S0 (T349.setTop (mkF m 373 #[.val (.int p1), .val (.long p2), .second, .val (.long p3), .second, .val (.long p4), .second, .val (.int sl), .val (.ref b1), .val (.ref b2), .val (.int mm), .val (.int kk), .val (.int nm), .val (.int qq), .val (.int x1), .val (.int x2), .val (.int y1), .val (.int y2), .val (.int z1), .val (.int z2), .val (.ref oa), .val (.ref ob), .val (.ref oc), .val (.ref oa), .val (.ref oa), .val (.int tt), .unset, .unset, .unset, .unset, .unset, .unset, .unset, .unset, .unset] [(.int y1), (.int (if kk < (1 : Int32) then (0 : Int32) else (1 : Int32))), (.long (v0 + v1))])) := by
    refine r355.trans ?_
    show Steps p.tables e below (T349.setTop (mkF m 371 #[.val (.int p1), .val (.long p2), .second, .val (.long p3), .second, .val (.long p4), .second, .val (.int sl), .val (.ref b1), .val (.ref b2), .val (.int mm), .val (.int kk), .val (.int nm), .val (.int qq), .val (.int x1), .val (.int x2), .val (.int y1), .val (.int y2), .val (.int z1), .val (.int z2), .val (.ref oa), .val (.ref ob), .val (.ref oc), .val (.ref oa), .val (.ref oa), .val (.int tt), .unset, .unset, .unset, .unset, .unset, .unset, .unset, .unset, .unset] [(.int (if kk < (1 : Int32) then (0 : Int32) else (1 : Int32))), (.long (v0 + v1))])) _
    refine XS.iload X349.here hx rfl (hb hby at_371) rfl ?_
    exact Steps.refl _
  obtain ⟨_, _, ⟨T357, L357, k357, n357⟩, -, X357, ⟨Lc357, hQ357, l357, y357, z357⟩, st357⟩ := Jvm.LawKit.callS X349 hx (y := (⟨"org/rowfold/aggregate/MomentsCombinePinLaw", "val", "(ZI)J"⟩ : MethodName)) hown (mvT hZ (hw _ (List.mem_of_getElem? (i := 22) rfl))) (mvT hZ (hw _ (List.mem_of_getElem? (i := 23) rfl))) (mvT hZ (hw _ (List.mem_of_getElem? (i := 4) rfl))) (mvT hZ (hw _ (List.mem_of_getElem? (i := 24) rfl))) (by decide) (backOf (W := 2) (rmVa l Z a0 hw [] (if kk < (1 : Int32) then (0 : Int32) else (1 : Int32)) y1 v2 h0 n0 Z0 hv2) hZ (hw _ (List.mem_of_getElem? (i := 24) rfl)) (hw _ (List.mem_of_getElem? (i := 4) rfl)) (by decide) (by decide)) (g := (mkF m 373 #[.val (.int p1), .val (.long p2), .second, .val (.long p3), .second, .val (.long p4), .second, .val (.int sl), .val (.ref b1), .val (.ref b2), .val (.int mm), .val (.int kk), .val (.int nm), .val (.int qq), .val (.int x1), .val (.int x2), .val (.int y1), .val (.int y2), .val (.int z1), .val (.int z2), .val (.ref oa), .val (.ref ob), .val (.ref oc), .val (.ref oa), .val (.ref oa), .val (.int tt), .unset, .unset, .unset, .unset, .unset, .unset, .unset, .unset, .unset] [(.int y1), (.int (if kk < (1 : Int32) then (0 : Int32) else (1 : Int32))), (.long (v0 + v1))])) rfl (by rw [hml]; rfl) (argsL := [(.int (if kk < (1 : Int32) then (0 : Int32) else (1 : Int32))), (.int y1)]) (rest := [(.long (v0 + v1))]) (lenOf pd_6 rfl) rfl (by show 2 * 0 + _ ≤ _; exact Nat.le_of_eq rfl) (hb hby at_373) (fun _ _ => ⟨rfl, e349, (by decide : ((5 + 0) + 0) + 0 ≤ _), (by decide : ((23 + 0) + 0) + 0 ≤ _)⟩)
  dsimp only [Pt.U, Pt.locs, Pt.cells, Pt.slots] at X357 l357 y357 z357 st357 hQ357
  subst l357 y357 z357
  obtain ⟨rfl, Nq357, e357⟩ := hQ357
  have N357 := Fr.app N349 Nq357
  have r358 : Steps p.tables e below S0 (T357.setTop (mkF m 376 #[.val (.int p1), .val (.long p2), .second, .val (.long p3), .second, .val (.long p4), .second, .val (.int sl), .val (.ref b1), .val (.ref b2), .val (.int mm), .val (.int kk), .val (.int nm), .val (.int qq), .val (.int x1), .val (.int x2), .val (.int y1), .val (.int y2), .val (.int z1), .val (.int z2), .val (.ref oa), .val (.ref ob), .val (.ref oc), .val (.ref oa), .val (.ref oa), .val (.int tt), .unset, .unset, .unset, .unset, .unset, .unset, .unset, .unset, .unset] [(.long v2), (.long (v0 + v1))])) := r356.trans (st357 _ (Steps.refl _))
  have r359 : Steps p.tables e below S0 (T357.setTop (mkF m 380 #[.val (.int p1), .val (.long p2), .second, .val (.long p3), .second, .val (.long p4), .second, .val (.int sl), .val (.ref b1), .val (.ref b2), .val (.int mm), .val (.int kk), .val (.int nm), .val (.int qq), .val (.int x1), .val (.int x2), .val (.int y1), .val (.int y2), .val (.int z1), .val (.int z2), .val (.ref oa), .val (.ref ob), .val (.ref oc), .val (.ref oa), .val (.ref oa), .val (.int tt), .unset, .unset, .unset, .unset, .unset, .unset, .unset, .unset, .unset] [(.int (2 : Int32)), (.int kk), (.long ((v0 + v1) + v2))])) := by
    refine r358.trans ?_
    show Steps p.tables e below (T357.setTop (mkF m 376 #[.val (.int p1), .val (.long p2), .second, .val (.long p3), .second, .val (.long p4), .second, .val (.int sl), .val (.ref b1), .val (.ref b2), .val (.int mm), .val (.int kk), .val (.int nm), .val (.int qq), .val (.int x1), .val (.int x2), .val (.int y1), .val (.int y2), .val (.int z1), .val (.int z2), .val (.ref oa), .val (.ref ob), .val (.ref oc), .val (.ref oa), .val (.ref oa), .val (.int tt), .unset, .unset, .unset, .unset, .unset, .unset, .unset, .unset, .unset] [(.long v2), (.long (v0 + v1))])) _
    refine XS.ladd X357.here hx rfl (hb hby at_376) rfl ?_
    show Steps p.tables e below (T357.setTop (mkF m 377 #[.val (.int p1), .val (.long p2), .second, .val (.long p3), .second, .val (.long p4), .second, .val (.int sl), .val (.ref b1), .val (.ref b2), .val (.int mm), .val (.int kk), .val (.int nm), .val (.int qq), .val (.int x1), .val (.int x2), .val (.int y1), .val (.int y2), .val (.int z1), .val (.int z2), .val (.ref oa), .val (.ref ob), .val (.ref oc), .val (.ref oa), .val (.ref oa), .val (.int tt), .unset, .unset, .unset, .unset, .unset, .unset, .unset, .unset, .unset] [(.long ((v0 + v1) + v2))])) _
    refine XS.iload X357.here hx rfl (hb hby at_377) rfl ?_
    show Steps p.tables e below (T357.setTop (mkF m 379 #[.val (.int p1), .val (.long p2), .second, .val (.long p3), .second, .val (.long p4), .second, .val (.int sl), .val (.ref b1), .val (.ref b2), .val (.int mm), .val (.int kk), .val (.int nm), .val (.int qq), .val (.int x1), .val (.int x2), .val (.int y1), .val (.int y2), .val (.int z1), .val (.int z2), .val (.ref oa), .val (.ref ob), .val (.ref oc), .val (.ref oa), .val (.ref oa), .val (.int tt), .unset, .unset, .unset, .unset, .unset, .unset, .unset, .unset, .unset] [(.int kk), (.long ((v0 + v1) + v2))])) _
    refine XS.iconst X357.here hx rfl (hb hby at_379) ?_
    exact Steps.refl _
  have r363 : Steps p.tables e below S0 (T357.setTop (mkF m 388 #[.val (.int p1), .val (.long p2), .second, .val (.long p3), .second, .val (.long p4), .second, .val (.int sl), .val (.ref b1), .val (.ref b2), .val (.int mm), .val (.int kk), .val (.int nm), .val (.int qq), .val (.int x1), .val (.int x2), .val (.int y1), .val (.int y2), .val (.int z1), .val (.int z2), .val (.ref oa), .val (.ref ob), .val (.ref oc), .val (.ref oa), .val (.ref oa), .val (.int tt), .unset, .unset, .unset, .unset, .unset, .unset, .unset, .unset, .unset] [(.int (if kk < (2 : Int32) then (0 : Int32) else (1 : Int32))), (.long ((v0 + v1) + v2))])) := by
    refine r359.trans ?_
    by_cases hf360 : kk < (2 : Int32)
    · skip
      rw [show (if kk < (2 : Int32) then (0 : Int32) else (1 : Int32)) = (0 : Int32) from if_pos hf360]
      have q0 : Steps p.tables e below (T357.setTop (mkF m 380 #[.val (.int p1), .val (.long p2), .second, .val (.long p3), .second, .val (.long p4), .second, .val (.int sl), .val (.ref b1), .val (.ref b2), .val (.int mm), .val (.int kk), .val (.int nm), .val (.int qq), .val (.int x1), .val (.int x2), .val (.int y1), .val (.int y2), .val (.int z1), .val (.int z2), .val (.ref oa), .val (.ref ob), .val (.ref oc), .val (.ref oa), .val (.ref oa), .val (.int tt), .unset, .unset, .unset, .unset, .unset, .unset, .unset, .unset, .unset] [(.int (2 : Int32)), (.int kk), (.long ((v0 + v1) + v2))])) (T357.setTop (mkF m 380 #[.val (.int p1), .val (.long p2), .second, .val (.long p3), .second, .val (.long p4), .second, .val (.int sl), .val (.ref b1), .val (.ref b2), .val (.int mm), .val (.int kk), .val (.int nm), .val (.int qq), .val (.int x1), .val (.int x2), .val (.int y1), .val (.int y2), .val (.int z1), .val (.int z2), .val (.ref oa), .val (.ref ob), .val (.ref oc), .val (.ref oa), .val (.ref oa), .val (.int tt), .unset, .unset, .unset, .unset, .unset, .unset, .unset, .unset, .unset] [(.int (2 : Int32)), (.int kk), (.long ((v0 + v1) + v2))])) := Steps.refl _
      have r361 : Steps p.tables e below (T357.setTop (mkF m 380 #[.val (.int p1), .val (.long p2), .second, .val (.long p3), .second, .val (.long p4), .second, .val (.int sl), .val (.ref b1), .val (.ref b2), .val (.int mm), .val (.int kk), .val (.int nm), .val (.int qq), .val (.int x1), .val (.int x2), .val (.int y1), .val (.int y2), .val (.int z1), .val (.int z2), .val (.ref oa), .val (.ref ob), .val (.ref oc), .val (.ref oa), .val (.ref oa), .val (.int tt), .unset, .unset, .unset, .unset, .unset, .unset, .unset, .unset, .unset] [(.int (2 : Int32)), (.int kk), (.long ((v0 + v1) + v2))])) (T357.setTop (mkF m 388 #[.val (.int p1), .val (.long p2), .second, .val (.long p3), .second, .val (.long p4), .second, .val (.int sl), .val (.ref b1), .val (.ref b2), .val (.int mm), .val (.int kk), .val (.int nm), .val (.int qq), .val (.int x1), .val (.int x2), .val (.int y1), .val (.int y2), .val (.int z1), .val (.int z2), .val (.ref oa), .val (.ref ob), .val (.ref oc), .val (.ref oa), .val (.ref oa), .val (.int tt), .unset, .unset, .unset, .unset, .unset, .unset, .unset, .unset, .unset] [(.int (0 : Int32)), (.long ((v0 + v1) + v2))])) := by
        refine q0.trans ?_
        show Steps p.tables e below (T357.setTop (mkF m 380 #[.val (.int p1), .val (.long p2), .second, .val (.long p3), .second, .val (.long p4), .second, .val (.int sl), .val (.ref b1), .val (.ref b2), .val (.int mm), .val (.int kk), .val (.int nm), .val (.int qq), .val (.int x1), .val (.int x2), .val (.int y1), .val (.int y2), .val (.int z1), .val (.int z2), .val (.ref oa), .val (.ref ob), .val (.ref oc), .val (.ref oa), .val (.ref oa), .val (.int tt), .unset, .unset, .unset, .unset, .unset, .unset, .unset, .unset, .unset] [(.int (2 : Int32)), (.int kk), (.long ((v0 + v1) + v2))])) _
        refine XS.icmpYes X357.here hx rfl (pc0 := 380) (pc' := 387) rfl (hb hby at_380) rfl (tlt hf360).1 (by decide) (by decide) ?_
        show Steps p.tables e below (T357.setTop (mkF m 387 #[.val (.int p1), .val (.long p2), .second, .val (.long p3), .second, .val (.long p4), .second, .val (.int sl), .val (.ref b1), .val (.ref b2), .val (.int mm), .val (.int kk), .val (.int nm), .val (.int qq), .val (.int x1), .val (.int x2), .val (.int y1), .val (.int y2), .val (.int z1), .val (.int z2), .val (.ref oa), .val (.ref ob), .val (.ref oc), .val (.ref oa), .val (.ref oa), .val (.int tt), .unset, .unset, .unset, .unset, .unset, .unset, .unset, .unset, .unset] [(.long ((v0 + v1) + v2))])) _
        refine XS.iconst X357.here hx rfl (hb hby at_387) ?_
        exact Steps.refl _
      exact r361
    · skip
      rw [show (if kk < (2 : Int32) then (0 : Int32) else (1 : Int32)) = (1 : Int32) from if_neg hf360]
      have q0 : Steps p.tables e below (T357.setTop (mkF m 380 #[.val (.int p1), .val (.long p2), .second, .val (.long p3), .second, .val (.long p4), .second, .val (.int sl), .val (.ref b1), .val (.ref b2), .val (.int mm), .val (.int kk), .val (.int nm), .val (.int qq), .val (.int x1), .val (.int x2), .val (.int y1), .val (.int y2), .val (.int z1), .val (.int z2), .val (.ref oa), .val (.ref ob), .val (.ref oc), .val (.ref oa), .val (.ref oa), .val (.int tt), .unset, .unset, .unset, .unset, .unset, .unset, .unset, .unset, .unset] [(.int (2 : Int32)), (.int kk), (.long ((v0 + v1) + v2))])) (T357.setTop (mkF m 380 #[.val (.int p1), .val (.long p2), .second, .val (.long p3), .second, .val (.long p4), .second, .val (.int sl), .val (.ref b1), .val (.ref b2), .val (.int mm), .val (.int kk), .val (.int nm), .val (.int qq), .val (.int x1), .val (.int x2), .val (.int y1), .val (.int y2), .val (.int z1), .val (.int z2), .val (.ref oa), .val (.ref ob), .val (.ref oc), .val (.ref oa), .val (.ref oa), .val (.int tt), .unset, .unset, .unset, .unset, .unset, .unset, .unset, .unset, .unset] [(.int (2 : Int32)), (.int kk), (.long ((v0 + v1) + v2))])) := Steps.refl _
      have r362 : Steps p.tables e below (T357.setTop (mkF m 380 #[.val (.int p1), .val (.long p2), .second, .val (.long p3), .second, .val (.long p4), .second, .val (.int sl), .val (.ref b1), .val (.ref b2), .val (.int mm), .val (.int kk), .val (.int nm), .val (.int qq), .val (.int x1), .val (.int x2), .val (.int y1), .val (.int y2), .val (.int z1), .val (.int z2), .val (.ref oa), .val (.ref ob), .val (.ref oc), .val (.ref oa), .val (.ref oa), .val (.int tt), .unset, .unset, .unset, .unset, .unset, .unset, .unset, .unset, .unset] [(.int (2 : Int32)), (.int kk), (.long ((v0 + v1) + v2))])) (T357.setTop (mkF m 388 #[.val (.int p1), .val (.long p2), .second, .val (.long p3), .second, .val (.long p4), .second, .val (.int sl), .val (.ref b1), .val (.ref b2), .val (.int mm), .val (.int kk), .val (.int nm), .val (.int qq), .val (.int x1), .val (.int x2), .val (.int y1), .val (.int y2), .val (.int z1), .val (.int z2), .val (.ref oa), .val (.ref ob), .val (.ref oc), .val (.ref oa), .val (.ref oa), .val (.int tt), .unset, .unset, .unset, .unset, .unset, .unset, .unset, .unset, .unset] [(.int (1 : Int32)), (.long ((v0 + v1) + v2))])) := by
        refine q0.trans ?_
        show Steps p.tables e below (T357.setTop (mkF m 380 #[.val (.int p1), .val (.long p2), .second, .val (.long p3), .second, .val (.long p4), .second, .val (.int sl), .val (.ref b1), .val (.ref b2), .val (.int mm), .val (.int kk), .val (.int nm), .val (.int qq), .val (.int x1), .val (.int x2), .val (.int y1), .val (.int y2), .val (.int z1), .val (.int z2), .val (.ref oa), .val (.ref ob), .val (.ref oc), .val (.ref oa), .val (.ref oa), .val (.int tt), .unset, .unset, .unset, .unset, .unset, .unset, .unset, .unset, .unset] [(.int (2 : Int32)), (.int kk), (.long ((v0 + v1) + v2))])) _
        refine XS.icmpNo X357.here hx rfl (hb hby at_380) rfl (flt hf360).1 ?_
        show Steps p.tables e below (T357.setTop (mkF m 383 #[.val (.int p1), .val (.long p2), .second, .val (.long p3), .second, .val (.long p4), .second, .val (.int sl), .val (.ref b1), .val (.ref b2), .val (.int mm), .val (.int kk), .val (.int nm), .val (.int qq), .val (.int x1), .val (.int x2), .val (.int y1), .val (.int y2), .val (.int z1), .val (.int z2), .val (.ref oa), .val (.ref ob), .val (.ref oc), .val (.ref oa), .val (.ref oa), .val (.int tt), .unset, .unset, .unset, .unset, .unset, .unset, .unset, .unset, .unset] [(.long ((v0 + v1) + v2))])) _
        refine XS.iconst X357.here hx rfl (hb hby at_383) ?_
        show Steps p.tables e below (T357.setTop (mkF m 384 #[.val (.int p1), .val (.long p2), .second, .val (.long p3), .second, .val (.long p4), .second, .val (.int sl), .val (.ref b1), .val (.ref b2), .val (.int mm), .val (.int kk), .val (.int nm), .val (.int qq), .val (.int x1), .val (.int x2), .val (.int y1), .val (.int y2), .val (.int z1), .val (.int z2), .val (.ref oa), .val (.ref ob), .val (.ref oc), .val (.ref oa), .val (.ref oa), .val (.int tt), .unset, .unset, .unset, .unset, .unset, .unset, .unset, .unset, .unset] [(.int (1 : Int32)), (.long ((v0 + v1) + v2))])) _
        refine XS.goto X357.here hx rfl (pc0 := 384) (pc' := 388) rfl (hb hby at_384) (by decide) (by decide) ?_
        exact Steps.refl _
      exact r362
  obtain ⟨v3, hv3, tv3⟩ := own_val (m := kk) (c := 2) by2
  rw [← hB3] at tv3
  have r364 : Steps p.tables e below S0 (T357.setTop (mkF m 390 #[.val (.int p1), .val (.long p2), .second, .val (.long p3), .second, .val (.long p4), .second, .val (.int sl), .val (.ref b1), .val (.ref b2), .val (.int mm), .val (.int kk), .val (.int nm), .val (.int qq), .val (.int x1), .val (.int x2), .val (.int y1), .val (.int y2), .val (.int z1), .val (.int z2), .val (.ref oa), .val (.ref ob), .val (.ref oc), .val (.ref oa), .val (.ref oa), .val (.int tt), .unset, .unset, .unset, .unset, .unset, .unset, .unset, .unset, .unset] [(.int y2), (.int (if kk < (2 : Int32) then (0 : Int32) else (1 : Int32))), (.long ((v0 + v1) + v2))])) := by
    refine r363.trans ?_
    show Steps p.tables e below (T357.setTop (mkF m 388 #[.val (.int p1), .val (.long p2), .second, .val (.long p3), .second, .val (.long p4), .second, .val (.int sl), .val (.ref b1), .val (.ref b2), .val (.int mm), .val (.int kk), .val (.int nm), .val (.int qq), .val (.int x1), .val (.int x2), .val (.int y1), .val (.int y2), .val (.int z1), .val (.int z2), .val (.ref oa), .val (.ref ob), .val (.ref oc), .val (.ref oa), .val (.ref oa), .val (.int tt), .unset, .unset, .unset, .unset, .unset, .unset, .unset, .unset, .unset] [(.int (if kk < (2 : Int32) then (0 : Int32) else (1 : Int32))), (.long ((v0 + v1) + v2))])) _
    refine XS.iload X357.here hx rfl (hb hby at_388) rfl ?_
    exact Steps.refl _
  obtain ⟨_, _, ⟨T365, L365, k365, n365⟩, -, X365, ⟨Lc365, hQ365, l365, y365, z365⟩, st365⟩ := Jvm.LawKit.callS X357 hx (y := (⟨"org/rowfold/aggregate/MomentsCombinePinLaw", "val", "(ZI)J"⟩ : MethodName)) hown (mvT hZ (hw _ (List.mem_of_getElem? (i := 22) rfl))) (mvT hZ (hw _ (List.mem_of_getElem? (i := 23) rfl))) (mvT hZ (hw _ (List.mem_of_getElem? (i := 4) rfl))) (mvT hZ (hw _ (List.mem_of_getElem? (i := 24) rfl))) (by decide) (backOf (W := 2) (rmVa l Z a0 hw [] (if kk < (2 : Int32) then (0 : Int32) else (1 : Int32)) y2 v3 h0 n0 Z0 hv3) hZ (hw _ (List.mem_of_getElem? (i := 24) rfl)) (hw _ (List.mem_of_getElem? (i := 4) rfl)) (by decide) (by decide)) (g := (mkF m 390 #[.val (.int p1), .val (.long p2), .second, .val (.long p3), .second, .val (.long p4), .second, .val (.int sl), .val (.ref b1), .val (.ref b2), .val (.int mm), .val (.int kk), .val (.int nm), .val (.int qq), .val (.int x1), .val (.int x2), .val (.int y1), .val (.int y2), .val (.int z1), .val (.int z2), .val (.ref oa), .val (.ref ob), .val (.ref oc), .val (.ref oa), .val (.ref oa), .val (.int tt), .unset, .unset, .unset, .unset, .unset, .unset, .unset, .unset, .unset] [(.int y2), (.int (if kk < (2 : Int32) then (0 : Int32) else (1 : Int32))), (.long ((v0 + v1) + v2))])) rfl (by rw [hml]; rfl) (argsL := [(.int (if kk < (2 : Int32) then (0 : Int32) else (1 : Int32))), (.int y2)]) (rest := [(.long ((v0 + v1) + v2))]) (lenOf pd_6 rfl) rfl (by show 2 * 0 + _ ≤ _; exact Nat.le_of_eq rfl) (hb hby at_390) (fun _ _ => ⟨rfl, e357, (by decide : (((5 + 0) + 0) + 0) + 0 ≤ _), (by decide : (((23 + 0) + 0) + 0) + 0 ≤ _)⟩)
  dsimp only [Pt.U, Pt.locs, Pt.cells, Pt.slots] at X365 l365 y365 z365 st365 hQ365
  subst l365 y365 z365
  obtain ⟨rfl, Nq365, e365⟩ := hQ365
  have N365 := Fr.app N357 Nq365
  have r366 : Steps p.tables e below S0 (T365.setTop (mkF m 393 #[.val (.int p1), .val (.long p2), .second, .val (.long p3), .second, .val (.long p4), .second, .val (.int sl), .val (.ref b1), .val (.ref b2), .val (.int mm), .val (.int kk), .val (.int nm), .val (.int qq), .val (.int x1), .val (.int x2), .val (.int y1), .val (.int y2), .val (.int z1), .val (.int z2), .val (.ref oa), .val (.ref ob), .val (.ref oc), .val (.ref oa), .val (.ref oa), .val (.int tt), .unset, .unset, .unset, .unset, .unset, .unset, .unset, .unset, .unset] [(.long v3), (.long ((v0 + v1) + v2))])) := r364.trans (st365 _ (Steps.refl _))
  have r367 : Steps p.tables e below S0 (T365.setTop (mkF m 397 #[.val (.int p1), .val (.long p2), .second, .val (.long p3), .second, .val (.long p4), .second, .val (.int sl), .val (.ref b1), .val (.ref b2), .val (.int mm), .val (.int kk), .val (.int nm), .val (.int qq), .val (.int x1), .val (.int x2), .val (.int y1), .val (.int y2), .val (.int z1), .val (.int z2), .val (.ref oa), .val (.ref ob), .val (.ref oc), .val (.ref oa), .val (.ref oa), .val (.int tt), .unset, .unset, .unset, .unset, .unset, .unset, .unset, .unset, .unset] [(.int (1 : Int32)), (.int qq), (.long (((v0 + v1) + v2) + v3))])) := by
    refine r366.trans ?_
    show Steps p.tables e below (T365.setTop (mkF m 393 #[.val (.int p1), .val (.long p2), .second, .val (.long p3), .second, .val (.long p4), .second, .val (.int sl), .val (.ref b1), .val (.ref b2), .val (.int mm), .val (.int kk), .val (.int nm), .val (.int qq), .val (.int x1), .val (.int x2), .val (.int y1), .val (.int y2), .val (.int z1), .val (.int z2), .val (.ref oa), .val (.ref ob), .val (.ref oc), .val (.ref oa), .val (.ref oa), .val (.int tt), .unset, .unset, .unset, .unset, .unset, .unset, .unset, .unset, .unset] [(.long v3), (.long ((v0 + v1) + v2))])) _
    refine XS.ladd X365.here hx rfl (hb hby at_393) rfl ?_
    show Steps p.tables e below (T365.setTop (mkF m 394 #[.val (.int p1), .val (.long p2), .second, .val (.long p3), .second, .val (.long p4), .second, .val (.int sl), .val (.ref b1), .val (.ref b2), .val (.int mm), .val (.int kk), .val (.int nm), .val (.int qq), .val (.int x1), .val (.int x2), .val (.int y1), .val (.int y2), .val (.int z1), .val (.int z2), .val (.ref oa), .val (.ref ob), .val (.ref oc), .val (.ref oa), .val (.ref oa), .val (.int tt), .unset, .unset, .unset, .unset, .unset, .unset, .unset, .unset, .unset] [(.long (((v0 + v1) + v2) + v3))])) _
    refine XS.iload X365.here hx rfl (hb hby at_394) rfl ?_
    show Steps p.tables e below (T365.setTop (mkF m 396 #[.val (.int p1), .val (.long p2), .second, .val (.long p3), .second, .val (.long p4), .second, .val (.int sl), .val (.ref b1), .val (.ref b2), .val (.int mm), .val (.int kk), .val (.int nm), .val (.int qq), .val (.int x1), .val (.int x2), .val (.int y1), .val (.int y2), .val (.int z1), .val (.int z2), .val (.ref oa), .val (.ref ob), .val (.ref oc), .val (.ref oa), .val (.ref oa), .val (.int tt), .unset, .unset, .unset, .unset, .unset, .unset, .unset, .unset, .unset] [(.int qq), (.long (((v0 + v1) + v2) + v3))])) _
    refine XS.iconst X365.here hx rfl (hb hby at_396) ?_
    exact Steps.refl _
  have r371 : Steps p.tables e below S0 (T365.setTop (mkF m 405 #[.val (.int p1), .val (.long p2), .second, .val (.long p3), .second, .val (.long p4), .second, .val (.int sl), .val (.ref b1), .val (.ref b2), .val (.int mm), .val (.int kk), .val (.int nm), .val (.int qq), .val (.int x1), .val (.int x2), .val (.int y1), .val (.int y2), .val (.int z1), .val (.int z2), .val (.ref oa), .val (.ref ob), .val (.ref oc), .val (.ref oa), .val (.ref oa), .val (.int tt), .unset, .unset, .unset, .unset, .unset, .unset, .unset, .unset, .unset] [(.int (if qq < (1 : Int32) then (0 : Int32) else (1 : Int32))), (.long (((v0 + v1) + v2) + v3))])) := by
    refine r367.trans ?_
    by_cases hf368 : qq < (1 : Int32)
    · skip
      rw [show (if qq < (1 : Int32) then (0 : Int32) else (1 : Int32)) = (0 : Int32) from if_pos hf368]
      have q0 : Steps p.tables e below (T365.setTop (mkF m 397 #[.val (.int p1), .val (.long p2), .second, .val (.long p3), .second, .val (.long p4), .second, .val (.int sl), .val (.ref b1), .val (.ref b2), .val (.int mm), .val (.int kk), .val (.int nm), .val (.int qq), .val (.int x1), .val (.int x2), .val (.int y1), .val (.int y2), .val (.int z1), .val (.int z2), .val (.ref oa), .val (.ref ob), .val (.ref oc), .val (.ref oa), .val (.ref oa), .val (.int tt), .unset, .unset, .unset, .unset, .unset, .unset, .unset, .unset, .unset] [(.int (1 : Int32)), (.int qq), (.long (((v0 + v1) + v2) + v3))])) (T365.setTop (mkF m 397 #[.val (.int p1), .val (.long p2), .second, .val (.long p3), .second, .val (.long p4), .second, .val (.int sl), .val (.ref b1), .val (.ref b2), .val (.int mm), .val (.int kk), .val (.int nm), .val (.int qq), .val (.int x1), .val (.int x2), .val (.int y1), .val (.int y2), .val (.int z1), .val (.int z2), .val (.ref oa), .val (.ref ob), .val (.ref oc), .val (.ref oa), .val (.ref oa), .val (.int tt), .unset, .unset, .unset, .unset, .unset, .unset, .unset, .unset, .unset] [(.int (1 : Int32)), (.int qq), (.long (((v0 + v1) + v2) + v3))])) := Steps.refl _
      have r369 : Steps p.tables e below (T365.setTop (mkF m 397 #[.val (.int p1), .val (.long p2), .second, .val (.long p3), .second, .val (.long p4), .second, .val (.int sl), .val (.ref b1), .val (.ref b2), .val (.int mm), .val (.int kk), .val (.int nm), .val (.int qq), .val (.int x1), .val (.int x2), .val (.int y1), .val (.int y2), .val (.int z1), .val (.int z2), .val (.ref oa), .val (.ref ob), .val (.ref oc), .val (.ref oa), .val (.ref oa), .val (.int tt), .unset, .unset, .unset, .unset, .unset, .unset, .unset, .unset, .unset] [(.int (1 : Int32)), (.int qq), (.long (((v0 + v1) + v2) + v3))])) (T365.setTop (mkF m 405 #[.val (.int p1), .val (.long p2), .second, .val (.long p3), .second, .val (.long p4), .second, .val (.int sl), .val (.ref b1), .val (.ref b2), .val (.int mm), .val (.int kk), .val (.int nm), .val (.int qq), .val (.int x1), .val (.int x2), .val (.int y1), .val (.int y2), .val (.int z1), .val (.int z2), .val (.ref oa), .val (.ref ob), .val (.ref oc), .val (.ref oa), .val (.ref oa), .val (.int tt), .unset, .unset, .unset, .unset, .unset, .unset, .unset, .unset, .unset] [(.int (0 : Int32)), (.long (((v0 + v1) + v2) + v3))])) := by
        refine q0.trans ?_
        show Steps p.tables e below (T365.setTop (mkF m 397 #[.val (.int p1), .val (.long p2), .second, .val (.long p3), .second, .val (.long p4), .second, .val (.int sl), .val (.ref b1), .val (.ref b2), .val (.int mm), .val (.int kk), .val (.int nm), .val (.int qq), .val (.int x1), .val (.int x2), .val (.int y1), .val (.int y2), .val (.int z1), .val (.int z2), .val (.ref oa), .val (.ref ob), .val (.ref oc), .val (.ref oa), .val (.ref oa), .val (.int tt), .unset, .unset, .unset, .unset, .unset, .unset, .unset, .unset, .unset] [(.int (1 : Int32)), (.int qq), (.long (((v0 + v1) + v2) + v3))])) _
        refine XS.icmpYes X365.here hx rfl (pc0 := 397) (pc' := 404) rfl (hb hby at_397) rfl (tlt hf368).1 (by decide) (by decide) ?_
        show Steps p.tables e below (T365.setTop (mkF m 404 #[.val (.int p1), .val (.long p2), .second, .val (.long p3), .second, .val (.long p4), .second, .val (.int sl), .val (.ref b1), .val (.ref b2), .val (.int mm), .val (.int kk), .val (.int nm), .val (.int qq), .val (.int x1), .val (.int x2), .val (.int y1), .val (.int y2), .val (.int z1), .val (.int z2), .val (.ref oa), .val (.ref ob), .val (.ref oc), .val (.ref oa), .val (.ref oa), .val (.int tt), .unset, .unset, .unset, .unset, .unset, .unset, .unset, .unset, .unset] [(.long (((v0 + v1) + v2) + v3))])) _
        refine XS.iconst X365.here hx rfl (hb hby at_404) ?_
        exact Steps.refl _
      exact r369
    · skip
      rw [show (if qq < (1 : Int32) then (0 : Int32) else (1 : Int32)) = (1 : Int32) from if_neg hf368]
      have q0 : Steps p.tables e below (T365.setTop (mkF m 397 #[.val (.int p1), .val (.long p2), .second, .val (.long p3), .second, .val (.long p4), .second, .val (.int sl), .val (.ref b1), .val (.ref b2), .val (.int mm), .val (.int kk), .val (.int nm), .val (.int qq), .val (.int x1), .val (.int x2), .val (.int y1), .val (.int y2), .val (.int z1), .val (.int z2), .val (.ref oa), .val (.ref ob), .val (.ref oc), .val (.ref oa), .val (.ref oa), .val (.int tt), .unset, .unset, .unset, .unset, .unset, .unset, .unset, .unset, .unset] [(.int (1 : Int32)), (.int qq), (.long (((v0 + v1) + v2) + v3))])) (T365.setTop (mkF m 397 #[.val (.int p1), .val (.long p2), .second, .val (.long p3), .second, .val (.long p4), .second, .val (.int sl), .val (.ref b1), .val (.ref b2), .val (.int mm), .val (.int kk), .val (.int nm), .val (.int qq), .val (.int x1), .val (.int x2), .val (.int y1), .val (.int y2), .val (.int z1), .val (.int z2), .val (.ref oa), .val (.ref ob), .val (.ref oc), .val (.ref oa), .val (.ref oa), .val (.int tt), .unset, .unset, .unset, .unset, .unset, .unset, .unset, .unset, .unset] [(.int (1 : Int32)), (.int qq), (.long (((v0 + v1) + v2) + v3))])) := Steps.refl _
      have r370 : Steps p.tables e below (T365.setTop (mkF m 397 #[.val (.int p1), .val (.long p2), .second, .val (.long p3), .second, .val (.long p4), .second, .val (.int sl), .val (.ref b1), .val (.ref b2), .val (.int mm), .val (.int kk), .val (.int nm), .val (.int qq), .val (.int x1), .val (.int x2), .val (.int y1), .val (.int y2), .val (.int z1), .val (.int z2), .val (.ref oa), .val (.ref ob), .val (.ref oc), .val (.ref oa), .val (.ref oa), .val (.int tt), .unset, .unset, .unset, .unset, .unset, .unset, .unset, .unset, .unset] [(.int (1 : Int32)), (.int qq), (.long (((v0 + v1) + v2) + v3))])) (T365.setTop (mkF m 405 #[.val (.int p1), .val (.long p2), .second, .val (.long p3), .second, .val (.long p4), .second, .val (.int sl), .val (.ref b1), .val (.ref b2), .val (.int mm), .val (.int kk), .val (.int nm), .val (.int qq), .val (.int x1), .val (.int x2), .val (.int y1), .val (.int y2), .val (.int z1), .val (.int z2), .val (.ref oa), .val (.ref ob), .val (.ref oc), .val (.ref oa), .val (.ref oa), .val (.int tt), .unset, .unset, .unset, .unset, .unset, .unset, .unset, .unset, .unset] [(.int (1 : Int32)), (.long (((v0 + v1) + v2) + v3))])) := by
        refine q0.trans ?_
        show Steps p.tables e below (T365.setTop (mkF m 397 #[.val (.int p1), .val (.long p2), .second, .val (.long p3), .second, .val (.long p4), .second, .val (.int sl), .val (.ref b1), .val (.ref b2), .val (.int mm), .val (.int kk), .val (.int nm), .val (.int qq), .val (.int x1), .val (.int x2), .val (.int y1), .val (.int y2), .val (.int z1), .val (.int z2), .val (.ref oa), .val (.ref ob), .val (.ref oc), .val (.ref oa), .val (.ref oa), .val (.int tt), .unset, .unset, .unset, .unset, .unset, .unset, .unset, .unset, .unset] [(.int (1 : Int32)), (.int qq), (.long (((v0 + v1) + v2) + v3))])) _
        refine XS.icmpNo X365.here hx rfl (hb hby at_397) rfl (flt hf368).1 ?_
        show Steps p.tables e below (T365.setTop (mkF m 400 #[.val (.int p1), .val (.long p2), .second, .val (.long p3), .second, .val (.long p4), .second, .val (.int sl), .val (.ref b1), .val (.ref b2), .val (.int mm), .val (.int kk), .val (.int nm), .val (.int qq), .val (.int x1), .val (.int x2), .val (.int y1), .val (.int y2), .val (.int z1), .val (.int z2), .val (.ref oa), .val (.ref ob), .val (.ref oc), .val (.ref oa), .val (.ref oa), .val (.int tt), .unset, .unset, .unset, .unset, .unset, .unset, .unset, .unset, .unset] [(.long (((v0 + v1) + v2) + v3))])) _
        refine XS.iconst X365.here hx rfl (hb hby at_400) ?_
        show Steps p.tables e below (T365.setTop (mkF m 401 #[.val (.int p1), .val (.long p2), .second, .val (.long p3), .second, .val (.long p4), .second, .val (.int sl), .val (.ref b1), .val (.ref b2), .val (.int mm), .val (.int kk), .val (.int nm), .val (.int qq), .val (.int x1), .val (.int x2), .val (.int y1), .val (.int y2), .val (.int z1), .val (.int z2), .val (.ref oa), .val (.ref ob), .val (.ref oc), .val (.ref oa), .val (.ref oa), .val (.int tt), .unset, .unset, .unset, .unset, .unset, .unset, .unset, .unset, .unset] [(.int (1 : Int32)), (.long (((v0 + v1) + v2) + v3))])) _
        refine XS.goto X365.here hx rfl (pc0 := 401) (pc' := 405) rfl (hb hby at_401) (by decide) (by decide) ?_
        exact Steps.refl _
      exact r370
  obtain ⟨v4, hv4, tv4⟩ := own_val (m := qq) (c := 1) bz1
  rw [← hB4] at tv4
  have r372 : Steps p.tables e below S0 (T365.setTop (mkF m 407 #[.val (.int p1), .val (.long p2), .second, .val (.long p3), .second, .val (.long p4), .second, .val (.int sl), .val (.ref b1), .val (.ref b2), .val (.int mm), .val (.int kk), .val (.int nm), .val (.int qq), .val (.int x1), .val (.int x2), .val (.int y1), .val (.int y2), .val (.int z1), .val (.int z2), .val (.ref oa), .val (.ref ob), .val (.ref oc), .val (.ref oa), .val (.ref oa), .val (.int tt), .unset, .unset, .unset, .unset, .unset, .unset, .unset, .unset, .unset] [(.int z1), (.int (if qq < (1 : Int32) then (0 : Int32) else (1 : Int32))), (.long (((v0 + v1) + v2) + v3))])) := by
    refine r371.trans ?_
    show Steps p.tables e below (T365.setTop (mkF m 405 #[.val (.int p1), .val (.long p2), .second, .val (.long p3), .second, .val (.long p4), .second, .val (.int sl), .val (.ref b1), .val (.ref b2), .val (.int mm), .val (.int kk), .val (.int nm), .val (.int qq), .val (.int x1), .val (.int x2), .val (.int y1), .val (.int y2), .val (.int z1), .val (.int z2), .val (.ref oa), .val (.ref ob), .val (.ref oc), .val (.ref oa), .val (.ref oa), .val (.int tt), .unset, .unset, .unset, .unset, .unset, .unset, .unset, .unset, .unset] [(.int (if qq < (1 : Int32) then (0 : Int32) else (1 : Int32))), (.long (((v0 + v1) + v2) + v3))])) _
    refine XS.iload X365.here hx rfl (hb hby at_405) rfl ?_
    exact Steps.refl _
  obtain ⟨_, _, ⟨T373, L373, k373, n373⟩, -, X373, ⟨Lc373, hQ373, l373, y373, z373⟩, st373⟩ := Jvm.LawKit.callS X365 hx (y := (⟨"org/rowfold/aggregate/MomentsCombinePinLaw", "val", "(ZI)J"⟩ : MethodName)) hown (mvT hZ (hw _ (List.mem_of_getElem? (i := 22) rfl))) (mvT hZ (hw _ (List.mem_of_getElem? (i := 23) rfl))) (mvT hZ (hw _ (List.mem_of_getElem? (i := 4) rfl))) (mvT hZ (hw _ (List.mem_of_getElem? (i := 24) rfl))) (by decide) (backOf (W := 2) (rmVa l Z a0 hw [] (if qq < (1 : Int32) then (0 : Int32) else (1 : Int32)) z1 v4 h0 n0 Z0 hv4) hZ (hw _ (List.mem_of_getElem? (i := 24) rfl)) (hw _ (List.mem_of_getElem? (i := 4) rfl)) (by decide) (by decide)) (g := (mkF m 407 #[.val (.int p1), .val (.long p2), .second, .val (.long p3), .second, .val (.long p4), .second, .val (.int sl), .val (.ref b1), .val (.ref b2), .val (.int mm), .val (.int kk), .val (.int nm), .val (.int qq), .val (.int x1), .val (.int x2), .val (.int y1), .val (.int y2), .val (.int z1), .val (.int z2), .val (.ref oa), .val (.ref ob), .val (.ref oc), .val (.ref oa), .val (.ref oa), .val (.int tt), .unset, .unset, .unset, .unset, .unset, .unset, .unset, .unset, .unset] [(.int z1), (.int (if qq < (1 : Int32) then (0 : Int32) else (1 : Int32))), (.long (((v0 + v1) + v2) + v3))])) rfl (by rw [hml]; rfl) (argsL := [(.int (if qq < (1 : Int32) then (0 : Int32) else (1 : Int32))), (.int z1)]) (rest := [(.long (((v0 + v1) + v2) + v3))]) (lenOf pd_6 rfl) rfl (by show 2 * 0 + _ ≤ _; exact Nat.le_of_eq rfl) (hb hby at_407) (fun _ _ => ⟨rfl, e365, (by decide : ((((5 + 0) + 0) + 0) + 0) + 0 ≤ _), (by decide : ((((23 + 0) + 0) + 0) + 0) + 0 ≤ _)⟩)
  dsimp only [Pt.U, Pt.locs, Pt.cells, Pt.slots] at X373 l373 y373 z373 st373 hQ373
  subst l373 y373 z373
  obtain ⟨rfl, Nq373, e373⟩ := hQ373
  have N373 := Fr.app N365 Nq373
  have r374 : Steps p.tables e below S0 (T373.setTop (mkF m 410 #[.val (.int p1), .val (.long p2), .second, .val (.long p3), .second, .val (.long p4), .second, .val (.int sl), .val (.ref b1), .val (.ref b2), .val (.int mm), .val (.int kk), .val (.int nm), .val (.int qq), .val (.int x1), .val (.int x2), .val (.int y1), .val (.int y2), .val (.int z1), .val (.int z2), .val (.ref oa), .val (.ref ob), .val (.ref oc), .val (.ref oa), .val (.ref oa), .val (.int tt), .unset, .unset, .unset, .unset, .unset, .unset, .unset, .unset, .unset] [(.long v4), (.long (((v0 + v1) + v2) + v3))])) := r372.trans (st373 _ (Steps.refl _))
  have r375 : Steps p.tables e below S0 (T373.setTop (mkF m 414 #[.val (.int p1), .val (.long p2), .second, .val (.long p3), .second, .val (.long p4), .second, .val (.int sl), .val (.ref b1), .val (.ref b2), .val (.int mm), .val (.int kk), .val (.int nm), .val (.int qq), .val (.int x1), .val (.int x2), .val (.int y1), .val (.int y2), .val (.int z1), .val (.int z2), .val (.ref oa), .val (.ref ob), .val (.ref oc), .val (.ref oa), .val (.ref oa), .val (.int tt), .unset, .unset, .unset, .unset, .unset, .unset, .unset, .unset, .unset] [(.int (2 : Int32)), (.int qq), (.long ((((v0 + v1) + v2) + v3) + v4))])) := by
    refine r374.trans ?_
    show Steps p.tables e below (T373.setTop (mkF m 410 #[.val (.int p1), .val (.long p2), .second, .val (.long p3), .second, .val (.long p4), .second, .val (.int sl), .val (.ref b1), .val (.ref b2), .val (.int mm), .val (.int kk), .val (.int nm), .val (.int qq), .val (.int x1), .val (.int x2), .val (.int y1), .val (.int y2), .val (.int z1), .val (.int z2), .val (.ref oa), .val (.ref ob), .val (.ref oc), .val (.ref oa), .val (.ref oa), .val (.int tt), .unset, .unset, .unset, .unset, .unset, .unset, .unset, .unset, .unset] [(.long v4), (.long (((v0 + v1) + v2) + v3))])) _
    refine XS.ladd X373.here hx rfl (hb hby at_410) rfl ?_
    show Steps p.tables e below (T373.setTop (mkF m 411 #[.val (.int p1), .val (.long p2), .second, .val (.long p3), .second, .val (.long p4), .second, .val (.int sl), .val (.ref b1), .val (.ref b2), .val (.int mm), .val (.int kk), .val (.int nm), .val (.int qq), .val (.int x1), .val (.int x2), .val (.int y1), .val (.int y2), .val (.int z1), .val (.int z2), .val (.ref oa), .val (.ref ob), .val (.ref oc), .val (.ref oa), .val (.ref oa), .val (.int tt), .unset, .unset, .unset, .unset, .unset, .unset, .unset, .unset, .unset] [(.long ((((v0 + v1) + v2) + v3) + v4))])) _
    refine XS.iload X373.here hx rfl (hb hby at_411) rfl ?_
    show Steps p.tables e below (T373.setTop (mkF m 413 #[.val (.int p1), .val (.long p2), .second, .val (.long p3), .second, .val (.long p4), .second, .val (.int sl), .val (.ref b1), .val (.ref b2), .val (.int mm), .val (.int kk), .val (.int nm), .val (.int qq), .val (.int x1), .val (.int x2), .val (.int y1), .val (.int y2), .val (.int z1), .val (.int z2), .val (.ref oa), .val (.ref ob), .val (.ref oc), .val (.ref oa), .val (.ref oa), .val (.int tt), .unset, .unset, .unset, .unset, .unset, .unset, .unset, .unset, .unset] [(.int qq), (.long ((((v0 + v1) + v2) + v3) + v4))])) _
    refine XS.iconst X373.here hx rfl (hb hby at_413) ?_
    exact Steps.refl _
  have r379 : Steps p.tables e below S0 (T373.setTop (mkF m 422 #[.val (.int p1), .val (.long p2), .second, .val (.long p3), .second, .val (.long p4), .second, .val (.int sl), .val (.ref b1), .val (.ref b2), .val (.int mm), .val (.int kk), .val (.int nm), .val (.int qq), .val (.int x1), .val (.int x2), .val (.int y1), .val (.int y2), .val (.int z1), .val (.int z2), .val (.ref oa), .val (.ref ob), .val (.ref oc), .val (.ref oa), .val (.ref oa), .val (.int tt), .unset, .unset, .unset, .unset, .unset, .unset, .unset, .unset, .unset] [(.int (if qq < (2 : Int32) then (0 : Int32) else (1 : Int32))), (.long ((((v0 + v1) + v2) + v3) + v4))])) := by
    refine r375.trans ?_
    by_cases hf376 : qq < (2 : Int32)
    · skip
      rw [show (if qq < (2 : Int32) then (0 : Int32) else (1 : Int32)) = (0 : Int32) from if_pos hf376]
      have q0 : Steps p.tables e below (T373.setTop (mkF m 414 #[.val (.int p1), .val (.long p2), .second, .val (.long p3), .second, .val (.long p4), .second, .val (.int sl), .val (.ref b1), .val (.ref b2), .val (.int mm), .val (.int kk), .val (.int nm), .val (.int qq), .val (.int x1), .val (.int x2), .val (.int y1), .val (.int y2), .val (.int z1), .val (.int z2), .val (.ref oa), .val (.ref ob), .val (.ref oc), .val (.ref oa), .val (.ref oa), .val (.int tt), .unset, .unset, .unset, .unset, .unset, .unset, .unset, .unset, .unset] [(.int (2 : Int32)), (.int qq), (.long ((((v0 + v1) + v2) + v3) + v4))])) (T373.setTop (mkF m 414 #[.val (.int p1), .val (.long p2), .second, .val (.long p3), .second, .val (.long p4), .second, .val (.int sl), .val (.ref b1), .val (.ref b2), .val (.int mm), .val (.int kk), .val (.int nm), .val (.int qq), .val (.int x1), .val (.int x2), .val (.int y1), .val (.int y2), .val (.int z1), .val (.int z2), .val (.ref oa), .val (.ref ob), .val (.ref oc), .val (.ref oa), .val (.ref oa), .val (.int tt), .unset, .unset, .unset, .unset, .unset, .unset, .unset, .unset, .unset] [(.int (2 : Int32)), (.int qq), (.long ((((v0 + v1) + v2) + v3) + v4))])) := Steps.refl _
      have r377 : Steps p.tables e below (T373.setTop (mkF m 414 #[.val (.int p1), .val (.long p2), .second, .val (.long p3), .second, .val (.long p4), .second, .val (.int sl), .val (.ref b1), .val (.ref b2), .val (.int mm), .val (.int kk), .val (.int nm), .val (.int qq), .val (.int x1), .val (.int x2), .val (.int y1), .val (.int y2), .val (.int z1), .val (.int z2), .val (.ref oa), .val (.ref ob), .val (.ref oc), .val (.ref oa), .val (.ref oa), .val (.int tt), .unset, .unset, .unset, .unset, .unset, .unset, .unset, .unset, .unset] [(.int (2 : Int32)), (.int qq), (.long ((((v0 + v1) + v2) + v3) + v4))])) (T373.setTop (mkF m 422 #[.val (.int p1), .val (.long p2), .second, .val (.long p3), .second, .val (.long p4), .second, .val (.int sl), .val (.ref b1), .val (.ref b2), .val (.int mm), .val (.int kk), .val (.int nm), .val (.int qq), .val (.int x1), .val (.int x2), .val (.int y1), .val (.int y2), .val (.int z1), .val (.int z2), .val (.ref oa), .val (.ref ob), .val (.ref oc), .val (.ref oa), .val (.ref oa), .val (.int tt), .unset, .unset, .unset, .unset, .unset, .unset, .unset, .unset, .unset] [(.int (0 : Int32)), (.long ((((v0 + v1) + v2) + v3) + v4))])) := by
        refine q0.trans ?_
        show Steps p.tables e below (T373.setTop (mkF m 414 #[.val (.int p1), .val (.long p2), .second, .val (.long p3), .second, .val (.long p4), .second, .val (.int sl), .val (.ref b1), .val (.ref b2), .val (.int mm), .val (.int kk), .val (.int nm), .val (.int qq), .val (.int x1), .val (.int x2), .val (.int y1), .val (.int y2), .val (.int z1), .val (.int z2), .val (.ref oa), .val (.ref ob), .val (.ref oc), .val (.ref oa), .val (.ref oa), .val (.int tt), .unset, .unset, .unset, .unset, .unset, .unset, .unset, .unset, .unset] [(.int (2 : Int32)), (.int qq), (.long ((((v0 + v1) + v2) + v3) + v4))])) _
        refine XS.icmpYes X373.here hx rfl (pc0 := 414) (pc' := 421) rfl (hb hby at_414) rfl (tlt hf376).1 (by decide) (by decide) ?_
        show Steps p.tables e below (T373.setTop (mkF m 421 #[.val (.int p1), .val (.long p2), .second, .val (.long p3), .second, .val (.long p4), .second, .val (.int sl), .val (.ref b1), .val (.ref b2), .val (.int mm), .val (.int kk), .val (.int nm), .val (.int qq), .val (.int x1), .val (.int x2), .val (.int y1), .val (.int y2), .val (.int z1), .val (.int z2), .val (.ref oa), .val (.ref ob), .val (.ref oc), .val (.ref oa), .val (.ref oa), .val (.int tt), .unset, .unset, .unset, .unset, .unset, .unset, .unset, .unset, .unset] [(.long ((((v0 + v1) + v2) + v3) + v4))])) _
        refine XS.iconst X373.here hx rfl (hb hby at_421) ?_
        exact Steps.refl _
      exact r377
    · skip
      rw [show (if qq < (2 : Int32) then (0 : Int32) else (1 : Int32)) = (1 : Int32) from if_neg hf376]
      have q0 : Steps p.tables e below (T373.setTop (mkF m 414 #[.val (.int p1), .val (.long p2), .second, .val (.long p3), .second, .val (.long p4), .second, .val (.int sl), .val (.ref b1), .val (.ref b2), .val (.int mm), .val (.int kk), .val (.int nm), .val (.int qq), .val (.int x1), .val (.int x2), .val (.int y1), .val (.int y2), .val (.int z1), .val (.int z2), .val (.ref oa), .val (.ref ob), .val (.ref oc), .val (.ref oa), .val (.ref oa), .val (.int tt), .unset, .unset, .unset, .unset, .unset, .unset, .unset, .unset, .unset] [(.int (2 : Int32)), (.int qq), (.long ((((v0 + v1) + v2) + v3) + v4))])) (T373.setTop (mkF m 414 #[.val (.int p1), .val (.long p2), .second, .val (.long p3), .second, .val (.long p4), .second, .val (.int sl), .val (.ref b1), .val (.ref b2), .val (.int mm), .val (.int kk), .val (.int nm), .val (.int qq), .val (.int x1), .val (.int x2), .val (.int y1), .val (.int y2), .val (.int z1), .val (.int z2), .val (.ref oa), .val (.ref ob), .val (.ref oc), .val (.ref oa), .val (.ref oa), .val (.int tt), .unset, .unset, .unset, .unset, .unset, .unset, .unset, .unset, .unset] [(.int (2 : Int32)), (.int qq), (.long ((((v0 + v1) + v2) + v3) + v4))])) := Steps.refl _
      have r378 : Steps p.tables e below (T373.setTop (mkF m 414 #[.val (.int p1), .val (.long p2), .second, .val (.long p3), .second, .val (.long p4), .second, .val (.int sl), .val (.ref b1), .val (.ref b2), .val (.int mm), .val (.int kk), .val (.int nm), .val (.int qq), .val (.int x1), .val (.int x2), .val (.int y1), .val (.int y2), .val (.int z1), .val (.int z2), .val (.ref oa), .val (.ref ob), .val (.ref oc), .val (.ref oa), .val (.ref oa), .val (.int tt), .unset, .unset, .unset, .unset, .unset, .unset, .unset, .unset, .unset] [(.int (2 : Int32)), (.int qq), (.long ((((v0 + v1) + v2) + v3) + v4))])) (T373.setTop (mkF m 422 #[.val (.int p1), .val (.long p2), .second, .val (.long p3), .second, .val (.long p4), .second, .val (.int sl), .val (.ref b1), .val (.ref b2), .val (.int mm), .val (.int kk), .val (.int nm), .val (.int qq), .val (.int x1), .val (.int x2), .val (.int y1), .val (.int y2), .val (.int z1), .val (.int z2), .val (.ref oa), .val (.ref ob), .val (.ref oc), .val (.ref oa), .val (.ref oa), .val (.int tt), .unset, .unset, .unset, .unset, .unset, .unset, .unset, .unset, .unset] [(.int (1 : Int32)), (.long ((((v0 + v1) + v2) + v3) + v4))])) := by
        refine q0.trans ?_
        show Steps p.tables e below (T373.setTop (mkF m 414 #[.val (.int p1), .val (.long p2), .second, .val (.long p3), .second, .val (.long p4), .second, .val (.int sl), .val (.ref b1), .val (.ref b2), .val (.int mm), .val (.int kk), .val (.int nm), .val (.int qq), .val (.int x1), .val (.int x2), .val (.int y1), .val (.int y2), .val (.int z1), .val (.int z2), .val (.ref oa), .val (.ref ob), .val (.ref oc), .val (.ref oa), .val (.ref oa), .val (.int tt), .unset, .unset, .unset, .unset, .unset, .unset, .unset, .unset, .unset] [(.int (2 : Int32)), (.int qq), (.long ((((v0 + v1) + v2) + v3) + v4))])) _
        refine XS.icmpNo X373.here hx rfl (hb hby at_414) rfl (flt hf376).1 ?_
        show Steps p.tables e below (T373.setTop (mkF m 417 #[.val (.int p1), .val (.long p2), .second, .val (.long p3), .second, .val (.long p4), .second, .val (.int sl), .val (.ref b1), .val (.ref b2), .val (.int mm), .val (.int kk), .val (.int nm), .val (.int qq), .val (.int x1), .val (.int x2), .val (.int y1), .val (.int y2), .val (.int z1), .val (.int z2), .val (.ref oa), .val (.ref ob), .val (.ref oc), .val (.ref oa), .val (.ref oa), .val (.int tt), .unset, .unset, .unset, .unset, .unset, .unset, .unset, .unset, .unset] [(.long ((((v0 + v1) + v2) + v3) + v4))])) _
        refine XS.iconst X373.here hx rfl (hb hby at_417) ?_
        show Steps p.tables e below (T373.setTop (mkF m 418 #[.val (.int p1), .val (.long p2), .second, .val (.long p3), .second, .val (.long p4), .second, .val (.int sl), .val (.ref b1), .val (.ref b2), .val (.int mm), .val (.int kk), .val (.int nm), .val (.int qq), .val (.int x1), .val (.int x2), .val (.int y1), .val (.int y2), .val (.int z1), .val (.int z2), .val (.ref oa), .val (.ref ob), .val (.ref oc), .val (.ref oa), .val (.ref oa), .val (.int tt), .unset, .unset, .unset, .unset, .unset, .unset, .unset, .unset, .unset] [(.int (1 : Int32)), (.long ((((v0 + v1) + v2) + v3) + v4))])) _
        refine XS.goto X373.here hx rfl (pc0 := 418) (pc' := 422) rfl (hb hby at_418) (by decide) (by decide) ?_
        exact Steps.refl _
      exact r378
  obtain ⟨v5, hv5, tv5⟩ := own_val (m := qq) (c := 2) bz2
  rw [← hB5] at tv5
  have r380 : Steps p.tables e below S0 (T373.setTop (mkF m 424 #[.val (.int p1), .val (.long p2), .second, .val (.long p3), .second, .val (.long p4), .second, .val (.int sl), .val (.ref b1), .val (.ref b2), .val (.int mm), .val (.int kk), .val (.int nm), .val (.int qq), .val (.int x1), .val (.int x2), .val (.int y1), .val (.int y2), .val (.int z1), .val (.int z2), .val (.ref oa), .val (.ref ob), .val (.ref oc), .val (.ref oa), .val (.ref oa), .val (.int tt), .unset, .unset, .unset, .unset, .unset, .unset, .unset, .unset, .unset] [(.int z2), (.int (if qq < (2 : Int32) then (0 : Int32) else (1 : Int32))), (.long ((((v0 + v1) + v2) + v3) + v4))])) := by
    refine r379.trans ?_
    show Steps p.tables e below (T373.setTop (mkF m 422 #[.val (.int p1), .val (.long p2), .second, .val (.long p3), .second, .val (.long p4), .second, .val (.int sl), .val (.ref b1), .val (.ref b2), .val (.int mm), .val (.int kk), .val (.int nm), .val (.int qq), .val (.int x1), .val (.int x2), .val (.int y1), .val (.int y2), .val (.int z1), .val (.int z2), .val (.ref oa), .val (.ref ob), .val (.ref oc), .val (.ref oa), .val (.ref oa), .val (.int tt), .unset, .unset, .unset, .unset, .unset, .unset, .unset, .unset, .unset] [(.int (if qq < (2 : Int32) then (0 : Int32) else (1 : Int32))), (.long ((((v0 + v1) + v2) + v3) + v4))])) _
    refine XS.iload X373.here hx rfl (hb hby at_422) rfl ?_
    exact Steps.refl _
  obtain ⟨_, _, ⟨T381, L381, k381, n381⟩, -, X381, ⟨Lc381, hQ381, l381, y381, z381⟩, st381⟩ := Jvm.LawKit.callS X373 hx (y := (⟨"org/rowfold/aggregate/MomentsCombinePinLaw", "val", "(ZI)J"⟩ : MethodName)) hown (mvT hZ (hw _ (List.mem_of_getElem? (i := 22) rfl))) (mvT hZ (hw _ (List.mem_of_getElem? (i := 23) rfl))) (mvT hZ (hw _ (List.mem_of_getElem? (i := 4) rfl))) (mvT hZ (hw _ (List.mem_of_getElem? (i := 24) rfl))) (by decide) (backOf (W := 2) (rmVa l Z a0 hw [] (if qq < (2 : Int32) then (0 : Int32) else (1 : Int32)) z2 v5 h0 n0 Z0 hv5) hZ (hw _ (List.mem_of_getElem? (i := 24) rfl)) (hw _ (List.mem_of_getElem? (i := 4) rfl)) (by decide) (by decide)) (g := (mkF m 424 #[.val (.int p1), .val (.long p2), .second, .val (.long p3), .second, .val (.long p4), .second, .val (.int sl), .val (.ref b1), .val (.ref b2), .val (.int mm), .val (.int kk), .val (.int nm), .val (.int qq), .val (.int x1), .val (.int x2), .val (.int y1), .val (.int y2), .val (.int z1), .val (.int z2), .val (.ref oa), .val (.ref ob), .val (.ref oc), .val (.ref oa), .val (.ref oa), .val (.int tt), .unset, .unset, .unset, .unset, .unset, .unset, .unset, .unset, .unset] [(.int z2), (.int (if qq < (2 : Int32) then (0 : Int32) else (1 : Int32))), (.long ((((v0 + v1) + v2) + v3) + v4))])) rfl (by rw [hml]; rfl) (argsL := [(.int (if qq < (2 : Int32) then (0 : Int32) else (1 : Int32))), (.int z2)]) (rest := [(.long ((((v0 + v1) + v2) + v3) + v4))]) (lenOf pd_6 rfl) rfl (by show 2 * 0 + _ ≤ _; exact Nat.le_of_eq rfl) (hb hby at_424) (fun _ _ => ⟨rfl, e373, (by decide : (((((5 + 0) + 0) + 0) + 0) + 0) + 0 ≤ _), (by decide : (((((23 + 0) + 0) + 0) + 0) + 0) + 0 ≤ _)⟩)
  dsimp only [Pt.U, Pt.locs, Pt.cells, Pt.slots] at X381 l381 y381 z381 st381 hQ381
  subst l381 y381 z381
  obtain ⟨rfl, Nq381, e381⟩ := hQ381
  have N381 := Fr.app N373 Nq381
  have r382 : Steps p.tables e below S0 (T381.setTop (mkF m 427 #[.val (.int p1), .val (.long p2), .second, .val (.long p3), .second, .val (.long p4), .second, .val (.int sl), .val (.ref b1), .val (.ref b2), .val (.int mm), .val (.int kk), .val (.int nm), .val (.int qq), .val (.int x1), .val (.int x2), .val (.int y1), .val (.int y2), .val (.int z1), .val (.int z2), .val (.ref oa), .val (.ref ob), .val (.ref oc), .val (.ref oa), .val (.ref oa), .val (.int tt), .unset, .unset, .unset, .unset, .unset, .unset, .unset, .unset, .unset] [(.long v5), (.long ((((v0 + v1) + v2) + v3) + v4))])) := r380.trans (st381 _ (Steps.refl _))
  have r383 : Steps p.tables e below S0 (T381.setTop (mkF m 430 #[.val (.int p1), .val (.long p2), .second, .val (.long p3), .second, .val (.long p4), .second, .val (.int sl), .val (.ref b1), .val (.ref b2), .val (.int mm), .val (.int kk), .val (.int nm), .val (.int qq), .val (.int x1), .val (.int x2), .val (.int y1), .val (.int y2), .val (.int z1), .val (.int z2), .val (.ref oa), .val (.ref ob), .val (.ref oc), .val (.ref oa), .val (.ref oa), .val (.int tt), .val (.long (((((v0 + v1) + v2) + v3) + v4) + v5)), .second, .unset, .unset, .unset, .unset, .unset, .unset, .unset] [])) := by
    refine r382.trans ?_
    show Steps p.tables e below (T381.setTop (mkF m 427 #[.val (.int p1), .val (.long p2), .second, .val (.long p3), .second, .val (.long p4), .second, .val (.int sl), .val (.ref b1), .val (.ref b2), .val (.int mm), .val (.int kk), .val (.int nm), .val (.int qq), .val (.int x1), .val (.int x2), .val (.int y1), .val (.int y2), .val (.int z1), .val (.int z2), .val (.ref oa), .val (.ref ob), .val (.ref oc), .val (.ref oa), .val (.ref oa), .val (.int tt), .unset, .unset, .unset, .unset, .unset, .unset, .unset, .unset, .unset] [(.long v5), (.long ((((v0 + v1) + v2) + v3) + v4))])) _
    refine XS.ladd X381.here hx rfl (hb hby at_427) rfl ?_
    show Steps p.tables e below (T381.setTop (mkF m 428 #[.val (.int p1), .val (.long p2), .second, .val (.long p3), .second, .val (.long p4), .second, .val (.int sl), .val (.ref b1), .val (.ref b2), .val (.int mm), .val (.int kk), .val (.int nm), .val (.int qq), .val (.int x1), .val (.int x2), .val (.int y1), .val (.int y2), .val (.int z1), .val (.int z2), .val (.ref oa), .val (.ref ob), .val (.ref oc), .val (.ref oa), .val (.ref oa), .val (.int tt), .unset, .unset, .unset, .unset, .unset, .unset, .unset, .unset, .unset] [(.long (((((v0 + v1) + v2) + v3) + v4) + v5))])) _
    refine XS.lstore X381.here hx rfl (hb hby at_428) rfl (l' := #[.val (.int p1), .val (.long p2), .second, .val (.long p3), .second, .val (.long p4), .second, .val (.int sl), .val (.ref b1), .val (.ref b2), .val (.int mm), .val (.int kk), .val (.int nm), .val (.int qq), .val (.int x1), .val (.int x2), .val (.int y1), .val (.int y2), .val (.int z1), .val (.int z2), .val (.ref oa), .val (.ref ob), .val (.ref oc), .val (.ref oa), .val (.ref oa), .val (.int tt), .val (.long (((((v0 + v1) + v2) + v3) + v4) + v5)), .second, .unset, .unset, .unset, .unset, .unset, .unset, .unset]) rfl ?_
    exact Steps.refl _
  exact ⟨T381, _, v0, v1, v2, v3, v4, v5, X381, e381, N381, tv0, tv1, tv2, tv3, tv4, tv5, r383⟩
set_option maxRecDepth 65536 in
set_option maxHeartbeats 40000000 in
theorem sgQ {p : Program} {e : Env} {s : State} {m : MethodId} {below : List Frame} {meth : Method} {c : Code} (l : Launch) (Z : State) (a0 : Array Value) (hw : ∀ d ∈ tables_1, d.before a0 Z = true) (p1 : Int32) (p2 p3 p4 : Int64) (hx : p.tables.exec = Jvm.exec) (hby : c.code = code) (hml : c.maxLocals = 35) (hown : s.vm.findClass "org/rowfold/aggregate/MomentsCombinePinLaw" = some m.cls) (hZ : Z.Warmed39 s.vm) (b1 : Addr) (b2 : Addr) (sl : Int32) (mm : Int32) (kk : Int32) (nm : Int32) (qq : Int32) (x1 : Int32) (x2 : Int32) (y1 : Int32) (y2 : Int32) (z1 : Int32) (z2 : Int32) (oa : Addr) (ob : Addr) (oc : Addr) (tt : Int32) (B0 : Int) (B1 : Int) (B2 : Int) (B3 : Int) (B4 : Int) (B5 : Int) (v0 : Int64) (v1 : Int64) (v2 : Int64) (v3 : Int64) (v4 : Int64) (v5 : Int64) (S0 T0 : State) (h0 : Heap) (L0 : List Loc) (n0 : Nat) (X0 : Stand p l e room_1 s m #[(.int p1), (.long p2), (.long p3), (.long p4)] below meth c T0 L0 5 23) (e0 : T0.heap = h0) (N0 : Fr n0 L0) (O0 : Old Z n0 h0) (Z0 : n0 ≤ h0.size) (bx1 : x1.toInt.natAbs ≤ 1048576) (bx2 : x2.toInt.natAbs ≤ 1048576) (by1 : y1.toInt.natAbs ≤ 1048576) (by2 : y2.toInt.natAbs ≤ 1048576) (bz1 : z1.toInt.natAbs ≤ 1048576) (bz2 : z2.toInt.natAbs ≤ 1048576) (hB0 : B0 = (if mm < (1 : Int32) then 0 else x1.toInt)) (hB1 : B1 = (if mm < (2 : Int32) then 0 else x2.toInt)) (hB2 : B2 = (if kk < (1 : Int32) then 0 else y1.toInt)) (hB3 : B3 = (if kk < (2 : Int32) then 0 else y2.toInt)) (hB4 : B4 = (if qq < (1 : Int32) then 0 else z1.toInt)) (hB5 : B5 = (if qq < (2 : Int32) then 0 else z2.toInt)) (r0 : Steps p.tables e below S0 (T0.setTop (mkF m 430 #[.val (.int p1), .val (.long p2), .second, .val (.long p3), .second, .val (.long p4), .second, .val (.int sl), .val (.ref b1), .val (.ref b2), .val (.int mm), .val (.int kk), .val (.int nm), .val (.int qq), .val (.int x1), .val (.int x2), .val (.int y1), .val (.int y2), .val (.int z1), .val (.int z2), .val (.ref oa), .val (.ref ob), .val (.ref oc), .val (.ref oa), .val (.ref oa), .val (.int tt), .val (.long (((((v0 + v1) + v2) + v3) + v4) + v5)), .second, .unset, .unset, .unset, .unset, .unset, .unset, .unset] []))) :
    ∃ (T' : State) (L' : List Loc) (s0 s1 s2 s3 s4 s5 : Int64), Stand p l e room_1 s m #[(.int p1), (.long p2), (.long p3), (.long p4)] below meth c T' L' 5 23 ∧ T'.heap = h0 ∧ Fr n0 L' ∧ s0.toInt = B0 * B0 ∧ s1.toInt = B1 * B1 ∧ s2.toInt = B2 * B2 ∧ s3.toInt = B3 * B3 ∧ s4.toInt = B4 * B4 ∧ s5.toInt = B5 * B5 ∧ Steps p.tables e below S0 (T'.setTop (mkF m 533 #[.val (.int p1), .val (.long p2), .second, .val (.long p3), .second, .val (.long p4), .second, .val (.int sl), .val (.ref b1), .val (.ref b2), .val (.int mm), .val (.int kk), .val (.int nm), .val (.int qq), .val (.int x1), .val (.int x2), .val (.int y1), .val (.int y2), .val (.int z1), .val (.int z2), .val (.ref oa), .val (.ref ob), .val (.ref oc), .val (.ref oa), .val (.ref oa), .val (.int tt), .val (.long (((((v0 + v1) + v2) + v3) + v4) + v5)), .second, .val (.long (((((s0 + s1) + s2) + s3) + s4) + s5)), .second, .unset, .unset, .unset, .unset, .unset] [])) := by
  have r384 : Steps p.tables e below S0 (T0.setTop (mkF m 433 #[.val (.int p1), .val (.long p2), .second, .val (.long p3), .second, .val (.long p4), .second, .val (.int sl), .val (.ref b1), .val (.ref b2), .val (.int mm), .val (.int kk), .val (.int nm), .val (.int qq), .val (.int x1), .val (.int x2), .val (.int y1), .val (.int y2), .val (.int z1), .val (.int z2), .val (.ref oa), .val (.ref ob), .val (.ref oc), .val (.ref oa), .val (.ref oa), .val (.int tt), .val (.long (((((v0 + v1) + v2) + v3) + v4) + v5)), .second, .unset, .unset, .unset, .unset, .unset, .unset, .unset] [(.int (1 : Int32)), (.int mm)])) := by
    refine r0.trans ?_
    show Steps p.tables e below (T0.setTop (mkF m 430 #[.val (.int p1), .val (.long p2), .second, .val (.long p3), .second, .val (.long p4), .second, .val (.int sl), .val (.ref b1), .val (.ref b2), .val (.int mm), .val (.int kk), .val (.int nm), .val (.int qq), .val (.int x1), .val (.int x2), .val (.int y1), .val (.int y2), .val (.int z1), .val (.int z2), .val (.ref oa), .val (.ref ob), .val (.ref oc), .val (.ref oa), .val (.ref oa), .val (.int tt), .val (.long (((((v0 + v1) + v2) + v3) + v4) + v5)), .second, .unset, .unset, .unset, .unset, .unset, .unset, .unset] [])) _
    refine XS.iload X0.here hx rfl (hb hby at_430) rfl ?_
    show Steps p.tables e below (T0.setTop (mkF m 432 #[.val (.int p1), .val (.long p2), .second, .val (.long p3), .second, .val (.long p4), .second, .val (.int sl), .val (.ref b1), .val (.ref b2), .val (.int mm), .val (.int kk), .val (.int nm), .val (.int qq), .val (.int x1), .val (.int x2), .val (.int y1), .val (.int y2), .val (.int z1), .val (.int z2), .val (.ref oa), .val (.ref ob), .val (.ref oc), .val (.ref oa), .val (.ref oa), .val (.int tt), .val (.long (((((v0 + v1) + v2) + v3) + v4) + v5)), .second, .unset, .unset, .unset, .unset, .unset, .unset, .unset] [(.int mm)])) _
    refine XS.iconst X0.here hx rfl (hb hby at_432) ?_
    exact Steps.refl _
  have r388 : Steps p.tables e below S0 (T0.setTop (mkF m 441 #[.val (.int p1), .val (.long p2), .second, .val (.long p3), .second, .val (.long p4), .second, .val (.int sl), .val (.ref b1), .val (.ref b2), .val (.int mm), .val (.int kk), .val (.int nm), .val (.int qq), .val (.int x1), .val (.int x2), .val (.int y1), .val (.int y2), .val (.int z1), .val (.int z2), .val (.ref oa), .val (.ref ob), .val (.ref oc), .val (.ref oa), .val (.ref oa), .val (.int tt), .val (.long (((((v0 + v1) + v2) + v3) + v4) + v5)), .second, .unset, .unset, .unset, .unset, .unset, .unset, .unset] [(.int (if mm < (1 : Int32) then (0 : Int32) else (1 : Int32)))])) := by
    refine r384.trans ?_
    by_cases hf385 : mm < (1 : Int32)
    · skip
      rw [show (if mm < (1 : Int32) then (0 : Int32) else (1 : Int32)) = (0 : Int32) from if_pos hf385]
      have q0 : Steps p.tables e below (T0.setTop (mkF m 433 #[.val (.int p1), .val (.long p2), .second, .val (.long p3), .second, .val (.long p4), .second, .val (.int sl), .val (.ref b1), .val (.ref b2), .val (.int mm), .val (.int kk), .val (.int nm), .val (.int qq), .val (.int x1), .val (.int x2), .val (.int y1), .val (.int y2), .val (.int z1), .val (.int z2), .val (.ref oa), .val (.ref ob), .val (.ref oc), .val (.ref oa), .val (.ref oa), .val (.int tt), .val (.long (((((v0 + v1) + v2) + v3) + v4) + v5)), .second, .unset, .unset, .unset, .unset, .unset, .unset, .unset] [(.int (1 : Int32)), (.int mm)])) (T0.setTop (mkF m 433 #[.val (.int p1), .val (.long p2), .second, .val (.long p3), .second, .val (.long p4), .second, .val (.int sl), .val (.ref b1), .val (.ref b2), .val (.int mm), .val (.int kk), .val (.int nm), .val (.int qq), .val (.int x1), .val (.int x2), .val (.int y1), .val (.int y2), .val (.int z1), .val (.int z2), .val (.ref oa), .val (.ref ob), .val (.ref oc), .val (.ref oa), .val (.ref oa), .val (.int tt), .val (.long (((((v0 + v1) + v2) + v3) + v4) + v5)), .second, .unset, .unset, .unset, .unset, .unset, .unset, .unset] [(.int (1 : Int32)), (.int mm)])) := Steps.refl _
      have r386 : Steps p.tables e below (T0.setTop (mkF m 433 #[.val (.int p1), .val (.long p2), .second, .val (.long p3), .second, .val (.long p4), .second, .val (.int sl), .val (.ref b1), .val (.ref b2), .val (.int mm), .val (.int kk), .val (.int nm), .val (.int qq), .val (.int x1), .val (.int x2), .val (.int y1), .val (.int y2), .val (.int z1), .val (.int z2), .val (.ref oa), .val (.ref ob), .val (.ref oc), .val (.ref oa), .val (.ref oa), .val (.int tt), .val (.long (((((v0 + v1) + v2) + v3) + v4) + v5)), .second, .unset, .unset, .unset, .unset, .unset, .unset, .unset] [(.int (1 : Int32)), (.int mm)])) (T0.setTop (mkF m 441 #[.val (.int p1), .val (.long p2), .second, .val (.long p3), .second, .val (.long p4), .second, .val (.int sl), .val (.ref b1), .val (.ref b2), .val (.int mm), .val (.int kk), .val (.int nm), .val (.int qq), .val (.int x1), .val (.int x2), .val (.int y1), .val (.int y2), .val (.int z1), .val (.int z2), .val (.ref oa), .val (.ref ob), .val (.ref oc), .val (.ref oa), .val (.ref oa), .val (.int tt), .val (.long (((((v0 + v1) + v2) + v3) + v4) + v5)), .second, .unset, .unset, .unset, .unset, .unset, .unset, .unset] [(.int (0 : Int32))])) := by
        refine q0.trans ?_
        show Steps p.tables e below (T0.setTop (mkF m 433 #[.val (.int p1), .val (.long p2), .second, .val (.long p3), .second, .val (.long p4), .second, .val (.int sl), .val (.ref b1), .val (.ref b2), .val (.int mm), .val (.int kk), .val (.int nm), .val (.int qq), .val (.int x1), .val (.int x2), .val (.int y1), .val (.int y2), .val (.int z1), .val (.int z2), .val (.ref oa), .val (.ref ob), .val (.ref oc), .val (.ref oa), .val (.ref oa), .val (.int tt), .val (.long (((((v0 + v1) + v2) + v3) + v4) + v5)), .second, .unset, .unset, .unset, .unset, .unset, .unset, .unset] [(.int (1 : Int32)), (.int mm)])) _
        refine XS.icmpYes X0.here hx rfl (pc0 := 433) (pc' := 440) rfl (hb hby at_433) rfl (tlt hf385).1 (by decide) (by decide) ?_
        show Steps p.tables e below (T0.setTop (mkF m 440 #[.val (.int p1), .val (.long p2), .second, .val (.long p3), .second, .val (.long p4), .second, .val (.int sl), .val (.ref b1), .val (.ref b2), .val (.int mm), .val (.int kk), .val (.int nm), .val (.int qq), .val (.int x1), .val (.int x2), .val (.int y1), .val (.int y2), .val (.int z1), .val (.int z2), .val (.ref oa), .val (.ref ob), .val (.ref oc), .val (.ref oa), .val (.ref oa), .val (.int tt), .val (.long (((((v0 + v1) + v2) + v3) + v4) + v5)), .second, .unset, .unset, .unset, .unset, .unset, .unset, .unset] [])) _
        refine XS.iconst X0.here hx rfl (hb hby at_440) ?_
        exact Steps.refl _
      exact r386
    · skip
      rw [show (if mm < (1 : Int32) then (0 : Int32) else (1 : Int32)) = (1 : Int32) from if_neg hf385]
      have q0 : Steps p.tables e below (T0.setTop (mkF m 433 #[.val (.int p1), .val (.long p2), .second, .val (.long p3), .second, .val (.long p4), .second, .val (.int sl), .val (.ref b1), .val (.ref b2), .val (.int mm), .val (.int kk), .val (.int nm), .val (.int qq), .val (.int x1), .val (.int x2), .val (.int y1), .val (.int y2), .val (.int z1), .val (.int z2), .val (.ref oa), .val (.ref ob), .val (.ref oc), .val (.ref oa), .val (.ref oa), .val (.int tt), .val (.long (((((v0 + v1) + v2) + v3) + v4) + v5)), .second, .unset, .unset, .unset, .unset, .unset, .unset, .unset] [(.int (1 : Int32)), (.int mm)])) (T0.setTop (mkF m 433 #[.val (.int p1), .val (.long p2), .second, .val (.long p3), .second, .val (.long p4), .second, .val (.int sl), .val (.ref b1), .val (.ref b2), .val (.int mm), .val (.int kk), .val (.int nm), .val (.int qq), .val (.int x1), .val (.int x2), .val (.int y1), .val (.int y2), .val (.int z1), .val (.int z2), .val (.ref oa), .val (.ref ob), .val (.ref oc), .val (.ref oa), .val (.ref oa), .val (.int tt), .val (.long (((((v0 + v1) + v2) + v3) + v4) + v5)), .second, .unset, .unset, .unset, .unset, .unset, .unset, .unset] [(.int (1 : Int32)), (.int mm)])) := Steps.refl _
      have r387 : Steps p.tables e below (T0.setTop (mkF m 433 #[.val (.int p1), .val (.long p2), .second, .val (.long p3), .second, .val (.long p4), .second, .val (.int sl), .val (.ref b1), .val (.ref b2), .val (.int mm), .val (.int kk), .val (.int nm), .val (.int qq), .val (.int x1), .val (.int x2), .val (.int y1), .val (.int y2), .val (.int z1), .val (.int z2), .val (.ref oa), .val (.ref ob), .val (.ref oc), .val (.ref oa), .val (.ref oa), .val (.int tt), .val (.long (((((v0 + v1) + v2) + v3) + v4) + v5)), .second, .unset, .unset, .unset, .unset, .unset, .unset, .unset] [(.int (1 : Int32)), (.int mm)])) (T0.setTop (mkF m 441 #[.val (.int p1), .val (.long p2), .second, .val (.long p3), .second, .val (.long p4), .second, .val (.int sl), .val (.ref b1), .val (.ref b2), .val (.int mm), .val (.int kk), .val (.int nm), .val (.int qq), .val (.int x1), .val (.int x2), .val (.int y1), .val (.int y2), .val (.int z1), .val (.int z2), .val (.ref oa), .val (.ref ob), .val (.ref oc), .val (.ref oa), .val (.ref oa), .val (.int tt), .val (.long (((((v0 + v1) + v2) + v3) + v4) + v5)), .second, .unset, .unset, .unset, .unset, .unset, .unset, .unset] [(.int (1 : Int32))])) := by
        refine q0.trans ?_
        show Steps p.tables e below (T0.setTop (mkF m 433 #[.val (.int p1), .val (.long p2), .second, .val (.long p3), .second, .val (.long p4), .second, .val (.int sl), .val (.ref b1), .val (.ref b2), .val (.int mm), .val (.int kk), .val (.int nm), .val (.int qq), .val (.int x1), .val (.int x2), .val (.int y1), .val (.int y2), .val (.int z1), .val (.int z2), .val (.ref oa), .val (.ref ob), .val (.ref oc), .val (.ref oa), .val (.ref oa), .val (.int tt), .val (.long (((((v0 + v1) + v2) + v3) + v4) + v5)), .second, .unset, .unset, .unset, .unset, .unset, .unset, .unset] [(.int (1 : Int32)), (.int mm)])) _
        refine XS.icmpNo X0.here hx rfl (hb hby at_433) rfl (flt hf385).1 ?_
        show Steps p.tables e below (T0.setTop (mkF m 436 #[.val (.int p1), .val (.long p2), .second, .val (.long p3), .second, .val (.long p4), .second, .val (.int sl), .val (.ref b1), .val (.ref b2), .val (.int mm), .val (.int kk), .val (.int nm), .val (.int qq), .val (.int x1), .val (.int x2), .val (.int y1), .val (.int y2), .val (.int z1), .val (.int z2), .val (.ref oa), .val (.ref ob), .val (.ref oc), .val (.ref oa), .val (.ref oa), .val (.int tt), .val (.long (((((v0 + v1) + v2) + v3) + v4) + v5)), .second, .unset, .unset, .unset, .unset, .unset, .unset, .unset] [])) _
        refine XS.iconst X0.here hx rfl (hb hby at_436) ?_
        show Steps p.tables e below (T0.setTop (mkF m 437 #[.val (.int p1), .val (.long p2), .second, .val (.long p3), .second, .val (.long p4), .second, .val (.int sl), .val (.ref b1), .val (.ref b2), .val (.int mm), .val (.int kk), .val (.int nm), .val (.int qq), .val (.int x1), .val (.int x2), .val (.int y1), .val (.int y2), .val (.int z1), .val (.int z2), .val (.ref oa), .val (.ref ob), .val (.ref oc), .val (.ref oa), .val (.ref oa), .val (.int tt), .val (.long (((((v0 + v1) + v2) + v3) + v4) + v5)), .second, .unset, .unset, .unset, .unset, .unset, .unset, .unset] [(.int (1 : Int32))])) _
        refine XS.goto X0.here hx rfl (pc0 := 437) (pc' := 441) rfl (hb hby at_437) (by decide) (by decide) ?_
        exact Steps.refl _
      exact r387
  obtain ⟨s0, hs0, ts0⟩ := own_sqr (m := mm) (c := 1) bx1
  rw [← hB0] at ts0
  have r389 : Steps p.tables e below S0 (T0.setTop (mkF m 443 #[.val (.int p1), .val (.long p2), .second, .val (.long p3), .second, .val (.long p4), .second, .val (.int sl), .val (.ref b1), .val (.ref b2), .val (.int mm), .val (.int kk), .val (.int nm), .val (.int qq), .val (.int x1), .val (.int x2), .val (.int y1), .val (.int y2), .val (.int z1), .val (.int z2), .val (.ref oa), .val (.ref ob), .val (.ref oc), .val (.ref oa), .val (.ref oa), .val (.int tt), .val (.long (((((v0 + v1) + v2) + v3) + v4) + v5)), .second, .unset, .unset, .unset, .unset, .unset, .unset, .unset] [(.int x1), (.int (if mm < (1 : Int32) then (0 : Int32) else (1 : Int32)))])) := by
    refine r388.trans ?_
    show Steps p.tables e below (T0.setTop (mkF m 441 #[.val (.int p1), .val (.long p2), .second, .val (.long p3), .second, .val (.long p4), .second, .val (.int sl), .val (.ref b1), .val (.ref b2), .val (.int mm), .val (.int kk), .val (.int nm), .val (.int qq), .val (.int x1), .val (.int x2), .val (.int y1), .val (.int y2), .val (.int z1), .val (.int z2), .val (.ref oa), .val (.ref ob), .val (.ref oc), .val (.ref oa), .val (.ref oa), .val (.int tt), .val (.long (((((v0 + v1) + v2) + v3) + v4) + v5)), .second, .unset, .unset, .unset, .unset, .unset, .unset, .unset] [(.int (if mm < (1 : Int32) then (0 : Int32) else (1 : Int32)))])) _
    refine XS.iload X0.here hx rfl (hb hby at_441) rfl ?_
    exact Steps.refl _
  obtain ⟨_, _, ⟨T390, L390, k390, n390⟩, -, X390, ⟨Lc390, hQ390, l390, y390, z390⟩, st390⟩ := Jvm.LawKit.callS X0 hx (y := (⟨"org/rowfold/aggregate/MomentsCombinePinLaw", "sqr", "(ZI)J"⟩ : MethodName)) hown (mvT hZ (hw _ (List.mem_of_getElem? (i := 25) rfl))) (mvT hZ (hw _ (List.mem_of_getElem? (i := 26) rfl))) (mvT hZ (hw _ (List.mem_of_getElem? (i := 4) rfl))) (mvT hZ (hw _ (List.mem_of_getElem? (i := 27) rfl))) (by decide) (backOf (W := 0) (rmSq l Z a0 hw [] (if mm < (1 : Int32) then (0 : Int32) else (1 : Int32)) x1 s0 h0 n0 Z0 hs0) hZ (hw _ (List.mem_of_getElem? (i := 27) rfl)) (hw _ (List.mem_of_getElem? (i := 4) rfl)) (by decide) (by decide)) (g := (mkF m 443 #[.val (.int p1), .val (.long p2), .second, .val (.long p3), .second, .val (.long p4), .second, .val (.int sl), .val (.ref b1), .val (.ref b2), .val (.int mm), .val (.int kk), .val (.int nm), .val (.int qq), .val (.int x1), .val (.int x2), .val (.int y1), .val (.int y2), .val (.int z1), .val (.int z2), .val (.ref oa), .val (.ref ob), .val (.ref oc), .val (.ref oa), .val (.ref oa), .val (.int tt), .val (.long (((((v0 + v1) + v2) + v3) + v4) + v5)), .second, .unset, .unset, .unset, .unset, .unset, .unset, .unset] [(.int x1), (.int (if mm < (1 : Int32) then (0 : Int32) else (1 : Int32)))])) rfl (by rw [hml]; rfl) (argsL := [(.int (if mm < (1 : Int32) then (0 : Int32) else (1 : Int32))), (.int x1)]) (rest := []) (lenOf pd_6 rfl) rfl (by show 2 * 0 + _ ≤ _; exact Nat.le_of_eq rfl) (hb hby at_443) (fun _ _ => ⟨rfl, e0, (by decide : 5 + 0 ≤ _), (by decide : 23 + 0 ≤ _)⟩)
  dsimp only [Pt.U, Pt.locs, Pt.cells, Pt.slots] at X390 l390 y390 z390 st390 hQ390
  subst l390 y390 z390
  obtain ⟨rfl, Nq390, e390⟩ := hQ390
  have N390 := Fr.app N0 Nq390
  have r391 : Steps p.tables e below S0 (T390.setTop (mkF m 446 #[.val (.int p1), .val (.long p2), .second, .val (.long p3), .second, .val (.long p4), .second, .val (.int sl), .val (.ref b1), .val (.ref b2), .val (.int mm), .val (.int kk), .val (.int nm), .val (.int qq), .val (.int x1), .val (.int x2), .val (.int y1), .val (.int y2), .val (.int z1), .val (.int z2), .val (.ref oa), .val (.ref ob), .val (.ref oc), .val (.ref oa), .val (.ref oa), .val (.int tt), .val (.long (((((v0 + v1) + v2) + v3) + v4) + v5)), .second, .unset, .unset, .unset, .unset, .unset, .unset, .unset] [(.long s0)])) := r389.trans (st390 _ (Steps.refl _))
  have r392 : Steps p.tables e below S0 (T390.setTop (mkF m 449 #[.val (.int p1), .val (.long p2), .second, .val (.long p3), .second, .val (.long p4), .second, .val (.int sl), .val (.ref b1), .val (.ref b2), .val (.int mm), .val (.int kk), .val (.int nm), .val (.int qq), .val (.int x1), .val (.int x2), .val (.int y1), .val (.int y2), .val (.int z1), .val (.int z2), .val (.ref oa), .val (.ref ob), .val (.ref oc), .val (.ref oa), .val (.ref oa), .val (.int tt), .val (.long (((((v0 + v1) + v2) + v3) + v4) + v5)), .second, .unset, .unset, .unset, .unset, .unset, .unset, .unset] [(.int (2 : Int32)), (.int mm), (.long s0)])) := by
    refine r391.trans ?_
    show Steps p.tables e below (T390.setTop (mkF m 446 #[.val (.int p1), .val (.long p2), .second, .val (.long p3), .second, .val (.long p4), .second, .val (.int sl), .val (.ref b1), .val (.ref b2), .val (.int mm), .val (.int kk), .val (.int nm), .val (.int qq), .val (.int x1), .val (.int x2), .val (.int y1), .val (.int y2), .val (.int z1), .val (.int z2), .val (.ref oa), .val (.ref ob), .val (.ref oc), .val (.ref oa), .val (.ref oa), .val (.int tt), .val (.long (((((v0 + v1) + v2) + v3) + v4) + v5)), .second, .unset, .unset, .unset, .unset, .unset, .unset, .unset] [(.long s0)])) _
    refine XS.iload X390.here hx rfl (hb hby at_446) rfl ?_
    show Steps p.tables e below (T390.setTop (mkF m 448 #[.val (.int p1), .val (.long p2), .second, .val (.long p3), .second, .val (.long p4), .second, .val (.int sl), .val (.ref b1), .val (.ref b2), .val (.int mm), .val (.int kk), .val (.int nm), .val (.int qq), .val (.int x1), .val (.int x2), .val (.int y1), .val (.int y2), .val (.int z1), .val (.int z2), .val (.ref oa), .val (.ref ob), .val (.ref oc), .val (.ref oa), .val (.ref oa), .val (.int tt), .val (.long (((((v0 + v1) + v2) + v3) + v4) + v5)), .second, .unset, .unset, .unset, .unset, .unset, .unset, .unset] [(.int mm), (.long s0)])) _
    refine XS.iconst X390.here hx rfl (hb hby at_448) ?_
    exact Steps.refl _
  have r396 : Steps p.tables e below S0 (T390.setTop (mkF m 457 #[.val (.int p1), .val (.long p2), .second, .val (.long p3), .second, .val (.long p4), .second, .val (.int sl), .val (.ref b1), .val (.ref b2), .val (.int mm), .val (.int kk), .val (.int nm), .val (.int qq), .val (.int x1), .val (.int x2), .val (.int y1), .val (.int y2), .val (.int z1), .val (.int z2), .val (.ref oa), .val (.ref ob), .val (.ref oc), .val (.ref oa), .val (.ref oa), .val (.int tt), .val (.long (((((v0 + v1) + v2) + v3) + v4) + v5)), .second, .unset, .unset, .unset, .unset, .unset, .unset, .unset] [(.int (if mm < (2 : Int32) then (0 : Int32) else (1 : Int32))), (.long s0)])) := by
    refine r392.trans ?_
    by_cases hf393 : mm < (2 : Int32)
    · skip
      rw [show (if mm < (2 : Int32) then (0 : Int32) else (1 : Int32)) = (0 : Int32) from if_pos hf393]
      have q0 : Steps p.tables e below (T390.setTop (mkF m 449 #[.val (.int p1), .val (.long p2), .second, .val (.long p3), .second, .val (.long p4), .second, .val (.int sl), .val (.ref b1), .val (.ref b2), .val (.int mm), .val (.int kk), .val (.int nm), .val (.int qq), .val (.int x1), .val (.int x2), .val (.int y1), .val (.int y2), .val (.int z1), .val (.int z2), .val (.ref oa), .val (.ref ob), .val (.ref oc), .val (.ref oa), .val (.ref oa), .val (.int tt), .val (.long (((((v0 + v1) + v2) + v3) + v4) + v5)), .second, .unset, .unset, .unset, .unset, .unset, .unset, .unset] [(.int (2 : Int32)), (.int mm), (.long s0)])) (T390.setTop (mkF m 449 #[.val (.int p1), .val (.long p2), .second, .val (.long p3), .second, .val (.long p4), .second, .val (.int sl), .val (.ref b1), .val (.ref b2), .val (.int mm), .val (.int kk), .val (.int nm), .val (.int qq), .val (.int x1), .val (.int x2), .val (.int y1), .val (.int y2), .val (.int z1), .val (.int z2), .val (.ref oa), .val (.ref ob), .val (.ref oc), .val (.ref oa), .val (.ref oa), .val (.int tt), .val (.long (((((v0 + v1) + v2) + v3) + v4) + v5)), .second, .unset, .unset, .unset, .unset, .unset, .unset, .unset] [(.int (2 : Int32)), (.int mm), (.long s0)])) := Steps.refl _
      have r394 : Steps p.tables e below (T390.setTop (mkF m 449 #[.val (.int p1), .val (.long p2), .second, .val (.long p3), .second, .val (.long p4), .second, .val (.int sl), .val (.ref b1), .val (.ref b2), .val (.int mm), .val (.int kk), .val (.int nm), .val (.int qq), .val (.int x1), .val (.int x2), .val (.int y1), .val (.int y2), .val (.int z1), .val (.int z2), .val (.ref oa), .val (.ref ob), .val (.ref oc), .val (.ref oa), .val (.ref oa), .val (.int tt), .val (.long (((((v0 + v1) + v2) + v3) + v4) + v5)), .second, .unset, .unset, .unset, .unset, .unset, .unset, .unset] [(.int (2 : Int32)), (.int mm), (.long s0)])) (T390.setTop (mkF m 457 #[.val (.int p1), .val (.long p2), .second, .val (.long p3), .second, .val (.long p4), .second, .val (.int sl), .val (.ref b1), .val (.ref b2), .val (.int mm), .val (.int kk), .val (.int nm), .val (.int qq), .val (.int x1), .val (.int x2), .val (.int y1), .val (.int y2), .val (.int z1), .val (.int z2), .val (.ref oa), .val (.ref ob), .val (.ref oc), .val (.ref oa), .val (.ref oa), .val (.int tt), .val (.long (((((v0 + v1) + v2) + v3) + v4) + v5)), .second, .unset, .unset, .unset, .unset, .unset, .unset, .unset] [(.int (0 : Int32)), (.long s0)])) := by
        refine q0.trans ?_
        show Steps p.tables e below (T390.setTop (mkF m 449 #[.val (.int p1), .val (.long p2), .second, .val (.long p3), .second, .val (.long p4), .second, .val (.int sl), .val (.ref b1), .val (.ref b2), .val (.int mm), .val (.int kk), .val (.int nm), .val (.int qq), .val (.int x1), .val (.int x2), .val (.int y1), .val (.int y2), .val (.int z1), .val (.int z2), .val (.ref oa), .val (.ref ob), .val (.ref oc), .val (.ref oa), .val (.ref oa), .val (.int tt), .val (.long (((((v0 + v1) + v2) + v3) + v4) + v5)), .second, .unset, .unset, .unset, .unset, .unset, .unset, .unset] [(.int (2 : Int32)), (.int mm), (.long s0)])) _
        refine XS.icmpYes X390.here hx rfl (pc0 := 449) (pc' := 456) rfl (hb hby at_449) rfl (tlt hf393).1 (by decide) (by decide) ?_
        show Steps p.tables e below (T390.setTop (mkF m 456 #[.val (.int p1), .val (.long p2), .second, .val (.long p3), .second, .val (.long p4), .second, .val (.int sl), .val (.ref b1), .val (.ref b2), .val (.int mm), .val (.int kk), .val (.int nm), .val (.int qq), .val (.int x1), .val (.int x2), .val (.int y1), .val (.int y2), .val (.int z1), .val (.int z2), .val (.ref oa), .val (.ref ob), .val (.ref oc), .val (.ref oa), .val (.ref oa), .val (.int tt), .val (.long (((((v0 + v1) + v2) + v3) + v4) + v5)), .second, .unset, .unset, .unset, .unset, .unset, .unset, .unset] [(.long s0)])) _
        refine XS.iconst X390.here hx rfl (hb hby at_456) ?_
        exact Steps.refl _
      exact r394
    · skip
      rw [show (if mm < (2 : Int32) then (0 : Int32) else (1 : Int32)) = (1 : Int32) from if_neg hf393]
      have q0 : Steps p.tables e below (T390.setTop (mkF m 449 #[.val (.int p1), .val (.long p2), .second, .val (.long p3), .second, .val (.long p4), .second, .val (.int sl), .val (.ref b1), .val (.ref b2), .val (.int mm), .val (.int kk), .val (.int nm), .val (.int qq), .val (.int x1), .val (.int x2), .val (.int y1), .val (.int y2), .val (.int z1), .val (.int z2), .val (.ref oa), .val (.ref ob), .val (.ref oc), .val (.ref oa), .val (.ref oa), .val (.int tt), .val (.long (((((v0 + v1) + v2) + v3) + v4) + v5)), .second, .unset, .unset, .unset, .unset, .unset, .unset, .unset] [(.int (2 : Int32)), (.int mm), (.long s0)])) (T390.setTop (mkF m 449 #[.val (.int p1), .val (.long p2), .second, .val (.long p3), .second, .val (.long p4), .second, .val (.int sl), .val (.ref b1), .val (.ref b2), .val (.int mm), .val (.int kk), .val (.int nm), .val (.int qq), .val (.int x1), .val (.int x2), .val (.int y1), .val (.int y2), .val (.int z1), .val (.int z2), .val (.ref oa), .val (.ref ob), .val (.ref oc), .val (.ref oa), .val (.ref oa), .val (.int tt), .val (.long (((((v0 + v1) + v2) + v3) + v4) + v5)), .second, .unset, .unset, .unset, .unset, .unset, .unset, .unset] [(.int (2 : Int32)), (.int mm), (.long s0)])) := Steps.refl _
      have r395 : Steps p.tables e below (T390.setTop (mkF m 449 #[.val (.int p1), .val (.long p2), .second, .val (.long p3), .second, .val (.long p4), .second, .val (.int sl), .val (.ref b1), .val (.ref b2), .val (.int mm), .val (.int kk), .val (.int nm), .val (.int qq), .val (.int x1), .val (.int x2), .val (.int y1), .val (.int y2), .val (.int z1), .val (.int z2), .val (.ref oa), .val (.ref ob), .val (.ref oc), .val (.ref oa), .val (.ref oa), .val (.int tt), .val (.long (((((v0 + v1) + v2) + v3) + v4) + v5)), .second, .unset, .unset, .unset, .unset, .unset, .unset, .unset] [(.int (2 : Int32)), (.int mm), (.long s0)])) (T390.setTop (mkF m 457 #[.val (.int p1), .val (.long p2), .second, .val (.long p3), .second, .val (.long p4), .second, .val (.int sl), .val (.ref b1), .val (.ref b2), .val (.int mm), .val (.int kk), .val (.int nm), .val (.int qq), .val (.int x1), .val (.int x2), .val (.int y1), .val (.int y2), .val (.int z1), .val (.int z2), .val (.ref oa), .val (.ref ob), .val (.ref oc), .val (.ref oa), .val (.ref oa), .val (.int tt), .val (.long (((((v0 + v1) + v2) + v3) + v4) + v5)), .second, .unset, .unset, .unset, .unset, .unset, .unset, .unset] [(.int (1 : Int32)), (.long s0)])) := by
        refine q0.trans ?_
        show Steps p.tables e below (T390.setTop (mkF m 449 #[.val (.int p1), .val (.long p2), .second, .val (.long p3), .second, .val (.long p4), .second, .val (.int sl), .val (.ref b1), .val (.ref b2), .val (.int mm), .val (.int kk), .val (.int nm), .val (.int qq), .val (.int x1), .val (.int x2), .val (.int y1), .val (.int y2), .val (.int z1), .val (.int z2), .val (.ref oa), .val (.ref ob), .val (.ref oc), .val (.ref oa), .val (.ref oa), .val (.int tt), .val (.long (((((v0 + v1) + v2) + v3) + v4) + v5)), .second, .unset, .unset, .unset, .unset, .unset, .unset, .unset] [(.int (2 : Int32)), (.int mm), (.long s0)])) _
        refine XS.icmpNo X390.here hx rfl (hb hby at_449) rfl (flt hf393).1 ?_
        show Steps p.tables e below (T390.setTop (mkF m 452 #[.val (.int p1), .val (.long p2), .second, .val (.long p3), .second, .val (.long p4), .second, .val (.int sl), .val (.ref b1), .val (.ref b2), .val (.int mm), .val (.int kk), .val (.int nm), .val (.int qq), .val (.int x1), .val (.int x2), .val (.int y1), .val (.int y2), .val (.int z1), .val (.int z2), .val (.ref oa), .val (.ref ob), .val (.ref oc), .val (.ref oa), .val (.ref oa), .val (.int tt), .val (.long (((((v0 + v1) + v2) + v3) + v4) + v5)), .second, .unset, .unset, .unset, .unset, .unset, .unset, .unset] [(.long s0)])) _
        refine XS.iconst X390.here hx rfl (hb hby at_452) ?_
        show Steps p.tables e below (T390.setTop (mkF m 453 #[.val (.int p1), .val (.long p2), .second, .val (.long p3), .second, .val (.long p4), .second, .val (.int sl), .val (.ref b1), .val (.ref b2), .val (.int mm), .val (.int kk), .val (.int nm), .val (.int qq), .val (.int x1), .val (.int x2), .val (.int y1), .val (.int y2), .val (.int z1), .val (.int z2), .val (.ref oa), .val (.ref ob), .val (.ref oc), .val (.ref oa), .val (.ref oa), .val (.int tt), .val (.long (((((v0 + v1) + v2) + v3) + v4) + v5)), .second, .unset, .unset, .unset, .unset, .unset, .unset, .unset] [(.int (1 : Int32)), (.long s0)])) _
        refine XS.goto X390.here hx rfl (pc0 := 453) (pc' := 457) rfl (hb hby at_453) (by decide) (by decide) ?_
        exact Steps.refl _
      exact r395
  obtain ⟨s1, hs1, ts1⟩ := own_sqr (m := mm) (c := 2) bx2
  rw [← hB1] at ts1
  have r397 : Steps p.tables e below S0 (T390.setTop (mkF m 459 #[.val (.int p1), .val (.long p2), .second, .val (.long p3), .second, .val (.long p4), .second, .val (.int sl), .val (.ref b1), .val (.ref b2), .val (.int mm), .val (.int kk), .val (.int nm), .val (.int qq), .val (.int x1), .val (.int x2), .val (.int y1), .val (.int y2), .val (.int z1), .val (.int z2), .val (.ref oa), .val (.ref ob), .val (.ref oc), .val (.ref oa), .val (.ref oa), .val (.int tt), .val (.long (((((v0 + v1) + v2) + v3) + v4) + v5)), .second, .unset, .unset, .unset, .unset, .unset, .unset, .unset] [(.int x2), (.int (if mm < (2 : Int32) then (0 : Int32) else (1 : Int32))), (.long s0)])) := by
    refine r396.trans ?_
    show Steps p.tables e below (T390.setTop (mkF m 457 #[.val (.int p1), .val (.long p2), .second, .val (.long p3), .second, .val (.long p4), .second, .val (.int sl), .val (.ref b1), .val (.ref b2), .val (.int mm), .val (.int kk), .val (.int nm), .val (.int qq), .val (.int x1), .val (.int x2), .val (.int y1), .val (.int y2), .val (.int z1), .val (.int z2), .val (.ref oa), .val (.ref ob), .val (.ref oc), .val (.ref oa), .val (.ref oa), .val (.int tt), .val (.long (((((v0 + v1) + v2) + v3) + v4) + v5)), .second, .unset, .unset, .unset, .unset, .unset, .unset, .unset] [(.int (if mm < (2 : Int32) then (0 : Int32) else (1 : Int32))), (.long s0)])) _
    refine XS.iload X390.here hx rfl (hb hby at_457) rfl ?_
    exact Steps.refl _
  obtain ⟨_, _, ⟨T398, L398, k398, n398⟩, -, X398, ⟨Lc398, hQ398, l398, y398, z398⟩, st398⟩ := Jvm.LawKit.callS X390 hx (y := (⟨"org/rowfold/aggregate/MomentsCombinePinLaw", "sqr", "(ZI)J"⟩ : MethodName)) hown (mvT hZ (hw _ (List.mem_of_getElem? (i := 25) rfl))) (mvT hZ (hw _ (List.mem_of_getElem? (i := 26) rfl))) (mvT hZ (hw _ (List.mem_of_getElem? (i := 4) rfl))) (mvT hZ (hw _ (List.mem_of_getElem? (i := 27) rfl))) (by decide) (backOf (W := 2) (rmSq l Z a0 hw [] (if mm < (2 : Int32) then (0 : Int32) else (1 : Int32)) x2 s1 h0 n0 Z0 hs1) hZ (hw _ (List.mem_of_getElem? (i := 27) rfl)) (hw _ (List.mem_of_getElem? (i := 4) rfl)) (by decide) (by decide)) (g := (mkF m 459 #[.val (.int p1), .val (.long p2), .second, .val (.long p3), .second, .val (.long p4), .second, .val (.int sl), .val (.ref b1), .val (.ref b2), .val (.int mm), .val (.int kk), .val (.int nm), .val (.int qq), .val (.int x1), .val (.int x2), .val (.int y1), .val (.int y2), .val (.int z1), .val (.int z2), .val (.ref oa), .val (.ref ob), .val (.ref oc), .val (.ref oa), .val (.ref oa), .val (.int tt), .val (.long (((((v0 + v1) + v2) + v3) + v4) + v5)), .second, .unset, .unset, .unset, .unset, .unset, .unset, .unset] [(.int x2), (.int (if mm < (2 : Int32) then (0 : Int32) else (1 : Int32))), (.long s0)])) rfl (by rw [hml]; rfl) (argsL := [(.int (if mm < (2 : Int32) then (0 : Int32) else (1 : Int32))), (.int x2)]) (rest := [(.long s0)]) (lenOf pd_6 rfl) rfl (by show 2 * 0 + _ ≤ _; exact Nat.le_of_eq rfl) (hb hby at_459) (fun _ _ => ⟨rfl, e390, (by decide : (5 + 0) + 0 ≤ _), (by decide : (23 + 0) + 0 ≤ _)⟩)
  dsimp only [Pt.U, Pt.locs, Pt.cells, Pt.slots] at X398 l398 y398 z398 st398 hQ398
  subst l398 y398 z398
  obtain ⟨rfl, Nq398, e398⟩ := hQ398
  have N398 := Fr.app N390 Nq398
  have r399 : Steps p.tables e below S0 (T398.setTop (mkF m 462 #[.val (.int p1), .val (.long p2), .second, .val (.long p3), .second, .val (.long p4), .second, .val (.int sl), .val (.ref b1), .val (.ref b2), .val (.int mm), .val (.int kk), .val (.int nm), .val (.int qq), .val (.int x1), .val (.int x2), .val (.int y1), .val (.int y2), .val (.int z1), .val (.int z2), .val (.ref oa), .val (.ref ob), .val (.ref oc), .val (.ref oa), .val (.ref oa), .val (.int tt), .val (.long (((((v0 + v1) + v2) + v3) + v4) + v5)), .second, .unset, .unset, .unset, .unset, .unset, .unset, .unset] [(.long s1), (.long s0)])) := r397.trans (st398 _ (Steps.refl _))
  have r400 : Steps p.tables e below S0 (T398.setTop (mkF m 466 #[.val (.int p1), .val (.long p2), .second, .val (.long p3), .second, .val (.long p4), .second, .val (.int sl), .val (.ref b1), .val (.ref b2), .val (.int mm), .val (.int kk), .val (.int nm), .val (.int qq), .val (.int x1), .val (.int x2), .val (.int y1), .val (.int y2), .val (.int z1), .val (.int z2), .val (.ref oa), .val (.ref ob), .val (.ref oc), .val (.ref oa), .val (.ref oa), .val (.int tt), .val (.long (((((v0 + v1) + v2) + v3) + v4) + v5)), .second, .unset, .unset, .unset, .unset, .unset, .unset, .unset] [(.int (1 : Int32)), (.int kk), (.long (s0 + s1))])) := by
    refine r399.trans ?_
    show Steps p.tables e below (T398.setTop (mkF m 462 #[.val (.int p1), .val (.long p2), .second, .val (.long p3), .second, .val (.long p4), .second, .val (.int sl), .val (.ref b1), .val (.ref b2), .val (.int mm), .val (.int kk), .val (.int nm), .val (.int qq), .val (.int x1), .val (.int x2), .val (.int y1), .val (.int y2), .val (.int z1), .val (.int z2), .val (.ref oa), .val (.ref ob), .val (.ref oc), .val (.ref oa), .val (.ref oa), .val (.int tt), .val (.long (((((v0 + v1) + v2) + v3) + v4) + v5)), .second, .unset, .unset, .unset, .unset, .unset, .unset, .unset] [(.long s1), (.long s0)])) _
    refine XS.ladd X398.here hx rfl (hb hby at_462) rfl ?_
    show Steps p.tables e below (T398.setTop (mkF m 463 #[.val (.int p1), .val (.long p2), .second, .val (.long p3), .second, .val (.long p4), .second, .val (.int sl), .val (.ref b1), .val (.ref b2), .val (.int mm), .val (.int kk), .val (.int nm), .val (.int qq), .val (.int x1), .val (.int x2), .val (.int y1), .val (.int y2), .val (.int z1), .val (.int z2), .val (.ref oa), .val (.ref ob), .val (.ref oc), .val (.ref oa), .val (.ref oa), .val (.int tt), .val (.long (((((v0 + v1) + v2) + v3) + v4) + v5)), .second, .unset, .unset, .unset, .unset, .unset, .unset, .unset] [(.long (s0 + s1))])) _
    refine XS.iload X398.here hx rfl (hb hby at_463) rfl ?_
    show Steps p.tables e below (T398.setTop (mkF m 465 #[.val (.int p1), .val (.long p2), .second, .val (.long p3), .second, .val (.long p4), .second, .val (.int sl), .val (.ref b1), .val (.ref b2), .val (.int mm), .val (.int kk), .val (.int nm), .val (.int qq), .val (.int x1), .val (.int x2), .val (.int y1), .val (.int y2), .val (.int z1), .val (.int z2), .val (.ref oa), .val (.ref ob), .val (.ref oc), .val (.ref oa), .val (.ref oa), .val (.int tt), .val (.long (((((v0 + v1) + v2) + v3) + v4) + v5)), .second, .unset, .unset, .unset, .unset, .unset, .unset, .unset] [(.int kk), (.long (s0 + s1))])) _
    refine XS.iconst X398.here hx rfl (hb hby at_465) ?_
    exact Steps.refl _
  have r404 : Steps p.tables e below S0 (T398.setTop (mkF m 474 #[.val (.int p1), .val (.long p2), .second, .val (.long p3), .second, .val (.long p4), .second, .val (.int sl), .val (.ref b1), .val (.ref b2), .val (.int mm), .val (.int kk), .val (.int nm), .val (.int qq), .val (.int x1), .val (.int x2), .val (.int y1), .val (.int y2), .val (.int z1), .val (.int z2), .val (.ref oa), .val (.ref ob), .val (.ref oc), .val (.ref oa), .val (.ref oa), .val (.int tt), .val (.long (((((v0 + v1) + v2) + v3) + v4) + v5)), .second, .unset, .unset, .unset, .unset, .unset, .unset, .unset] [(.int (if kk < (1 : Int32) then (0 : Int32) else (1 : Int32))), (.long (s0 + s1))])) := by
    refine r400.trans ?_
    by_cases hf401 : kk < (1 : Int32)
    · skip
      rw [show (if kk < (1 : Int32) then (0 : Int32) else (1 : Int32)) = (0 : Int32) from if_pos hf401]
      have q0 : Steps p.tables e below (T398.setTop (mkF m 466 #[.val (.int p1), .val (.long p2), .second, .val (.long p3), .second, .val (.long p4), .second, .val (.int sl), .val (.ref b1), .val (.ref b2), .val (.int mm), .val (.int kk), .val (.int nm), .val (.int qq), .val (.int x1), .val (.int x2), .val (.int y1), .val (.int y2), .val (.int z1), .val (.int z2), .val (.ref oa), .val (.ref ob), .val (.ref oc), .val (.ref oa), .val (.ref oa), .val (.int tt), .val (.long (((((v0 + v1) + v2) + v3) + v4) + v5)), .second, .unset, .unset, .unset, .unset, .unset, .unset, .unset] [(.int (1 : Int32)), (.int kk), (.long (s0 + s1))])) (T398.setTop (mkF m 466 #[.val (.int p1), .val (.long p2), .second, .val (.long p3), .second, .val (.long p4), .second, .val (.int sl), .val (.ref b1), .val (.ref b2), .val (.int mm), .val (.int kk), .val (.int nm), .val (.int qq), .val (.int x1), .val (.int x2), .val (.int y1), .val (.int y2), .val (.int z1), .val (.int z2), .val (.ref oa), .val (.ref ob), .val (.ref oc), .val (.ref oa), .val (.ref oa), .val (.int tt), .val (.long (((((v0 + v1) + v2) + v3) + v4) + v5)), .second, .unset, .unset, .unset, .unset, .unset, .unset, .unset] [(.int (1 : Int32)), (.int kk), (.long (s0 + s1))])) := Steps.refl _
      have r402 : Steps p.tables e below (T398.setTop (mkF m 466 #[.val (.int p1), .val (.long p2), .second, .val (.long p3), .second, .val (.long p4), .second, .val (.int sl), .val (.ref b1), .val (.ref b2), .val (.int mm), .val (.int kk), .val (.int nm), .val (.int qq), .val (.int x1), .val (.int x2), .val (.int y1), .val (.int y2), .val (.int z1), .val (.int z2), .val (.ref oa), .val (.ref ob), .val (.ref oc), .val (.ref oa), .val (.ref oa), .val (.int tt), .val (.long (((((v0 + v1) + v2) + v3) + v4) + v5)), .second, .unset, .unset, .unset, .unset, .unset, .unset, .unset] [(.int (1 : Int32)), (.int kk), (.long (s0 + s1))])) (T398.setTop (mkF m 474 #[.val (.int p1), .val (.long p2), .second, .val (.long p3), .second, .val (.long p4), .second, .val (.int sl), .val (.ref b1), .val (.ref b2), .val (.int mm), .val (.int kk), .val (.int nm), .val (.int qq), .val (.int x1), .val (.int x2), .val (.int y1), .val (.int y2), .val (.int z1), .val (.int z2), .val (.ref oa), .val (.ref ob), .val (.ref oc), .val (.ref oa), .val (.ref oa), .val (.int tt), .val (.long (((((v0 + v1) + v2) + v3) + v4) + v5)), .second, .unset, .unset, .unset, .unset, .unset, .unset, .unset] [(.int (0 : Int32)), (.long (s0 + s1))])) := by
        refine q0.trans ?_
        show Steps p.tables e below (T398.setTop (mkF m 466 #[.val (.int p1), .val (.long p2), .second, .val (.long p3), .second, .val (.long p4), .second, .val (.int sl), .val (.ref b1), .val (.ref b2), .val (.int mm), .val (.int kk), .val (.int nm), .val (.int qq), .val (.int x1), .val (.int x2), .val (.int y1), .val (.int y2), .val (.int z1), .val (.int z2), .val (.ref oa), .val (.ref ob), .val (.ref oc), .val (.ref oa), .val (.ref oa), .val (.int tt), .val (.long (((((v0 + v1) + v2) + v3) + v4) + v5)), .second, .unset, .unset, .unset, .unset, .unset, .unset, .unset] [(.int (1 : Int32)), (.int kk), (.long (s0 + s1))])) _
        refine XS.icmpYes X398.here hx rfl (pc0 := 466) (pc' := 473) rfl (hb hby at_466) rfl (tlt hf401).1 (by decide) (by decide) ?_
        show Steps p.tables e below (T398.setTop (mkF m 473 #[.val (.int p1), .val (.long p2), .second, .val (.long p3), .second, .val (.long p4), .second, .val (.int sl), .val (.ref b1), .val (.ref b2), .val (.int mm), .val (.int kk), .val (.int nm), .val (.int qq), .val (.int x1), .val (.int x2), .val (.int y1), .val (.int y2), .val (.int z1), .val (.int z2), .val (.ref oa), .val (.ref ob), .val (.ref oc), .val (.ref oa), .val (.ref oa), .val (.int tt), .val (.long (((((v0 + v1) + v2) + v3) + v4) + v5)), .second, .unset, .unset, .unset, .unset, .unset, .unset, .unset] [(.long (s0 + s1))])) _
        refine XS.iconst X398.here hx rfl (hb hby at_473) ?_
        exact Steps.refl _
      exact r402
    · skip
      rw [show (if kk < (1 : Int32) then (0 : Int32) else (1 : Int32)) = (1 : Int32) from if_neg hf401]
      have q0 : Steps p.tables e below (T398.setTop (mkF m 466 #[.val (.int p1), .val (.long p2), .second, .val (.long p3), .second, .val (.long p4), .second, .val (.int sl), .val (.ref b1), .val (.ref b2), .val (.int mm), .val (.int kk), .val (.int nm), .val (.int qq), .val (.int x1), .val (.int x2), .val (.int y1), .val (.int y2), .val (.int z1), .val (.int z2), .val (.ref oa), .val (.ref ob), .val (.ref oc), .val (.ref oa), .val (.ref oa), .val (.int tt), .val (.long (((((v0 + v1) + v2) + v3) + v4) + v5)), .second, .unset, .unset, .unset, .unset, .unset, .unset, .unset] [(.int (1 : Int32)), (.int kk), (.long (s0 + s1))])) (T398.setTop (mkF m 466 #[.val (.int p1), .val (.long p2), .second, .val (.long p3), .second, .val (.long p4), .second, .val (.int sl), .val (.ref b1), .val (.ref b2), .val (.int mm), .val (.int kk), .val (.int nm), .val (.int qq), .val (.int x1), .val (.int x2), .val (.int y1), .val (.int y2), .val (.int z1), .val (.int z2), .val (.ref oa), .val (.ref ob), .val (.ref oc), .val (.ref oa), .val (.ref oa), .val (.int tt), .val (.long (((((v0 + v1) + v2) + v3) + v4) + v5)), .second, .unset, .unset, .unset, .unset, .unset, .unset, .unset] [(.int (1 : Int32)), (.int kk), (.long (s0 + s1))])) := Steps.refl _
      have r403 : Steps p.tables e below (T398.setTop (mkF m 466 #[.val (.int p1), .val (.long p2), .second, .val (.long p3), .second, .val (.long p4), .second, .val (.int sl), .val (.ref b1), .val (.ref b2), .val (.int mm), .val (.int kk), .val (.int nm), .val (.int qq), .val (.int x1), .val (.int x2), .val (.int y1), .val (.int y2), .val (.int z1), .val (.int z2), .val (.ref oa), .val (.ref ob), .val (.ref oc), .val (.ref oa), .val (.ref oa), .val (.int tt), .val (.long (((((v0 + v1) + v2) + v3) + v4) + v5)), .second, .unset, .unset, .unset, .unset, .unset, .unset, .unset] [(.int (1 : Int32)), (.int kk), (.long (s0 + s1))])) (T398.setTop (mkF m 474 #[.val (.int p1), .val (.long p2), .second, .val (.long p3), .second, .val (.long p4), .second, .val (.int sl), .val (.ref b1), .val (.ref b2), .val (.int mm), .val (.int kk), .val (.int nm), .val (.int qq), .val (.int x1), .val (.int x2), .val (.int y1), .val (.int y2), .val (.int z1), .val (.int z2), .val (.ref oa), .val (.ref ob), .val (.ref oc), .val (.ref oa), .val (.ref oa), .val (.int tt), .val (.long (((((v0 + v1) + v2) + v3) + v4) + v5)), .second, .unset, .unset, .unset, .unset, .unset, .unset, .unset] [(.int (1 : Int32)), (.long (s0 + s1))])) := by
        refine q0.trans ?_
        show Steps p.tables e below (T398.setTop (mkF m 466 #[.val (.int p1), .val (.long p2), .second, .val (.long p3), .second, .val (.long p4), .second, .val (.int sl), .val (.ref b1), .val (.ref b2), .val (.int mm), .val (.int kk), .val (.int nm), .val (.int qq), .val (.int x1), .val (.int x2), .val (.int y1), .val (.int y2), .val (.int z1), .val (.int z2), .val (.ref oa), .val (.ref ob), .val (.ref oc), .val (.ref oa), .val (.ref oa), .val (.int tt), .val (.long (((((v0 + v1) + v2) + v3) + v4) + v5)), .second, .unset, .unset, .unset, .unset, .unset, .unset, .unset] [(.int (1 : Int32)), (.int kk), (.long (s0 + s1))])) _
        refine XS.icmpNo X398.here hx rfl (hb hby at_466) rfl (flt hf401).1 ?_
        show Steps p.tables e below (T398.setTop (mkF m 469 #[.val (.int p1), .val (.long p2), .second, .val (.long p3), .second, .val (.long p4), .second, .val (.int sl), .val (.ref b1), .val (.ref b2), .val (.int mm), .val (.int kk), .val (.int nm), .val (.int qq), .val (.int x1), .val (.int x2), .val (.int y1), .val (.int y2), .val (.int z1), .val (.int z2), .val (.ref oa), .val (.ref ob), .val (.ref oc), .val (.ref oa), .val (.ref oa), .val (.int tt), .val (.long (((((v0 + v1) + v2) + v3) + v4) + v5)), .second, .unset, .unset, .unset, .unset, .unset, .unset, .unset] [(.long (s0 + s1))])) _
        refine XS.iconst X398.here hx rfl (hb hby at_469) ?_
        show Steps p.tables e below (T398.setTop (mkF m 470 #[.val (.int p1), .val (.long p2), .second, .val (.long p3), .second, .val (.long p4), .second, .val (.int sl), .val (.ref b1), .val (.ref b2), .val (.int mm), .val (.int kk), .val (.int nm), .val (.int qq), .val (.int x1), .val (.int x2), .val (.int y1), .val (.int y2), .val (.int z1), .val (.int z2), .val (.ref oa), .val (.ref ob), .val (.ref oc), .val (.ref oa), .val (.ref oa), .val (.int tt), .val (.long (((((v0 + v1) + v2) + v3) + v4) + v5)), .second, .unset, .unset, .unset, .unset, .unset, .unset, .unset] [(.int (1 : Int32)), (.long (s0 + s1))])) _
        refine XS.goto X398.here hx rfl (pc0 := 470) (pc' := 474) rfl (hb hby at_470) (by decide) (by decide) ?_
        exact Steps.refl _
      exact r403
  obtain ⟨s2, hs2, ts2⟩ := own_sqr (m := kk) (c := 1) by1
  rw [← hB2] at ts2
  have r405 : Steps p.tables e below S0 (T398.setTop (mkF m 476 #[.val (.int p1), .val (.long p2), .second, .val (.long p3), .second, .val (.long p4), .second, .val (.int sl), .val (.ref b1), .val (.ref b2), .val (.int mm), .val (.int kk), .val (.int nm), .val (.int qq), .val (.int x1), .val (.int x2), .val (.int y1), .val (.int y2), .val (.int z1), .val (.int z2), .val (.ref oa), .val (.ref ob), .val (.ref oc), .val (.ref oa), .val (.ref oa), .val (.int tt), .val (.long (((((v0 + v1) + v2) + v3) + v4) + v5)), .second, .unset, .unset, .unset, .unset, .unset, .unset, .unset] [(.int y1), (.int (if kk < (1 : Int32) then (0 : Int32) else (1 : Int32))), (.long (s0 + s1))])) := by
    refine r404.trans ?_
    show Steps p.tables e below (T398.setTop (mkF m 474 #[.val (.int p1), .val (.long p2), .second, .val (.long p3), .second, .val (.long p4), .second, .val (.int sl), .val (.ref b1), .val (.ref b2), .val (.int mm), .val (.int kk), .val (.int nm), .val (.int qq), .val (.int x1), .val (.int x2), .val (.int y1), .val (.int y2), .val (.int z1), .val (.int z2), .val (.ref oa), .val (.ref ob), .val (.ref oc), .val (.ref oa), .val (.ref oa), .val (.int tt), .val (.long (((((v0 + v1) + v2) + v3) + v4) + v5)), .second, .unset, .unset, .unset, .unset, .unset, .unset, .unset] [(.int (if kk < (1 : Int32) then (0 : Int32) else (1 : Int32))), (.long (s0 + s1))])) _
    refine XS.iload X398.here hx rfl (hb hby at_474) rfl ?_
    exact Steps.refl _
  obtain ⟨_, _, ⟨T406, L406, k406, n406⟩, -, X406, ⟨Lc406, hQ406, l406, y406, z406⟩, st406⟩ := Jvm.LawKit.callS X398 hx (y := (⟨"org/rowfold/aggregate/MomentsCombinePinLaw", "sqr", "(ZI)J"⟩ : MethodName)) hown (mvT hZ (hw _ (List.mem_of_getElem? (i := 25) rfl))) (mvT hZ (hw _ (List.mem_of_getElem? (i := 26) rfl))) (mvT hZ (hw _ (List.mem_of_getElem? (i := 4) rfl))) (mvT hZ (hw _ (List.mem_of_getElem? (i := 27) rfl))) (by decide) (backOf (W := 2) (rmSq l Z a0 hw [] (if kk < (1 : Int32) then (0 : Int32) else (1 : Int32)) y1 s2 h0 n0 Z0 hs2) hZ (hw _ (List.mem_of_getElem? (i := 27) rfl)) (hw _ (List.mem_of_getElem? (i := 4) rfl)) (by decide) (by decide)) (g := (mkF m 476 #[.val (.int p1), .val (.long p2), .second, .val (.long p3), .second, .val (.long p4), .second, .val (.int sl), .val (.ref b1), .val (.ref b2), .val (.int mm), .val (.int kk), .val (.int nm), .val (.int qq), .val (.int x1), .val (.int x2), .val (.int y1), .val (.int y2), .val (.int z1), .val (.int z2), .val (.ref oa), .val (.ref ob), .val (.ref oc), .val (.ref oa), .val (.ref oa), .val (.int tt), .val (.long (((((v0 + v1) + v2) + v3) + v4) + v5)), .second, .unset, .unset, .unset, .unset, .unset, .unset, .unset] [(.int y1), (.int (if kk < (1 : Int32) then (0 : Int32) else (1 : Int32))), (.long (s0 + s1))])) rfl (by rw [hml]; rfl) (argsL := [(.int (if kk < (1 : Int32) then (0 : Int32) else (1 : Int32))), (.int y1)]) (rest := [(.long (s0 + s1))]) (lenOf pd_6 rfl) rfl (by show 2 * 0 + _ ≤ _; exact Nat.le_of_eq rfl) (hb hby at_476) (fun _ _ => ⟨rfl, e398, (by decide : ((5 + 0) + 0) + 0 ≤ _), (by decide : ((23 + 0) + 0) + 0 ≤ _)⟩)
  dsimp only [Pt.U, Pt.locs, Pt.cells, Pt.slots] at X406 l406 y406 z406 st406 hQ406
  subst l406 y406 z406
  obtain ⟨rfl, Nq406, e406⟩ := hQ406
  have N406 := Fr.app N398 Nq406
  have r407 : Steps p.tables e below S0 (T406.setTop (mkF m 479 #[.val (.int p1), .val (.long p2), .second, .val (.long p3), .second, .val (.long p4), .second, .val (.int sl), .val (.ref b1), .val (.ref b2), .val (.int mm), .val (.int kk), .val (.int nm), .val (.int qq), .val (.int x1), .val (.int x2), .val (.int y1), .val (.int y2), .val (.int z1), .val (.int z2), .val (.ref oa), .val (.ref ob), .val (.ref oc), .val (.ref oa), .val (.ref oa), .val (.int tt), .val (.long (((((v0 + v1) + v2) + v3) + v4) + v5)), .second, .unset, .unset, .unset, .unset, .unset, .unset, .unset] [(.long s2), (.long (s0 + s1))])) := r405.trans (st406 _ (Steps.refl _))
  have r408 : Steps p.tables e below S0 (T406.setTop (mkF m 483 #[.val (.int p1), .val (.long p2), .second, .val (.long p3), .second, .val (.long p4), .second, .val (.int sl), .val (.ref b1), .val (.ref b2), .val (.int mm), .val (.int kk), .val (.int nm), .val (.int qq), .val (.int x1), .val (.int x2), .val (.int y1), .val (.int y2), .val (.int z1), .val (.int z2), .val (.ref oa), .val (.ref ob), .val (.ref oc), .val (.ref oa), .val (.ref oa), .val (.int tt), .val (.long (((((v0 + v1) + v2) + v3) + v4) + v5)), .second, .unset, .unset, .unset, .unset, .unset, .unset, .unset] [(.int (2 : Int32)), (.int kk), (.long ((s0 + s1) + s2))])) := by
    refine r407.trans ?_
    show Steps p.tables e below (T406.setTop (mkF m 479 #[.val (.int p1), .val (.long p2), .second, .val (.long p3), .second, .val (.long p4), .second, .val (.int sl), .val (.ref b1), .val (.ref b2), .val (.int mm), .val (.int kk), .val (.int nm), .val (.int qq), .val (.int x1), .val (.int x2), .val (.int y1), .val (.int y2), .val (.int z1), .val (.int z2), .val (.ref oa), .val (.ref ob), .val (.ref oc), .val (.ref oa), .val (.ref oa), .val (.int tt), .val (.long (((((v0 + v1) + v2) + v3) + v4) + v5)), .second, .unset, .unset, .unset, .unset, .unset, .unset, .unset] [(.long s2), (.long (s0 + s1))])) _
    refine XS.ladd X406.here hx rfl (hb hby at_479) rfl ?_
    show Steps p.tables e below (T406.setTop (mkF m 480 #[.val (.int p1), .val (.long p2), .second, .val (.long p3), .second, .val (.long p4), .second, .val (.int sl), .val (.ref b1), .val (.ref b2), .val (.int mm), .val (.int kk), .val (.int nm), .val (.int qq), .val (.int x1), .val (.int x2), .val (.int y1), .val (.int y2), .val (.int z1), .val (.int z2), .val (.ref oa), .val (.ref ob), .val (.ref oc), .val (.ref oa), .val (.ref oa), .val (.int tt), .val (.long (((((v0 + v1) + v2) + v3) + v4) + v5)), .second, .unset, .unset, .unset, .unset, .unset, .unset, .unset] [(.long ((s0 + s1) + s2))])) _
    refine XS.iload X406.here hx rfl (hb hby at_480) rfl ?_
    show Steps p.tables e below (T406.setTop (mkF m 482 #[.val (.int p1), .val (.long p2), .second, .val (.long p3), .second, .val (.long p4), .second, .val (.int sl), .val (.ref b1), .val (.ref b2), .val (.int mm), .val (.int kk), .val (.int nm), .val (.int qq), .val (.int x1), .val (.int x2), .val (.int y1), .val (.int y2), .val (.int z1), .val (.int z2), .val (.ref oa), .val (.ref ob), .val (.ref oc), .val (.ref oa), .val (.ref oa), .val (.int tt), .val (.long (((((v0 + v1) + v2) + v3) + v4) + v5)), .second, .unset, .unset, .unset, .unset, .unset, .unset, .unset] [(.int kk), (.long ((s0 + s1) + s2))])) _
    refine XS.iconst X406.here hx rfl (hb hby at_482) ?_
    exact Steps.refl _
  have r412 : Steps p.tables e below S0 (T406.setTop (mkF m 491 #[.val (.int p1), .val (.long p2), .second, .val (.long p3), .second, .val (.long p4), .second, .val (.int sl), .val (.ref b1), .val (.ref b2), .val (.int mm), .val (.int kk), .val (.int nm), .val (.int qq), .val (.int x1), .val (.int x2), .val (.int y1), .val (.int y2), .val (.int z1), .val (.int z2), .val (.ref oa), .val (.ref ob), .val (.ref oc), .val (.ref oa), .val (.ref oa), .val (.int tt), .val (.long (((((v0 + v1) + v2) + v3) + v4) + v5)), .second, .unset, .unset, .unset, .unset, .unset, .unset, .unset] [(.int (if kk < (2 : Int32) then (0 : Int32) else (1 : Int32))), (.long ((s0 + s1) + s2))])) := by
    refine r408.trans ?_
    by_cases hf409 : kk < (2 : Int32)
    · skip
      rw [show (if kk < (2 : Int32) then (0 : Int32) else (1 : Int32)) = (0 : Int32) from if_pos hf409]
      have q0 : Steps p.tables e below (T406.setTop (mkF m 483 #[.val (.int p1), .val (.long p2), .second, .val (.long p3), .second, .val (.long p4), .second, .val (.int sl), .val (.ref b1), .val (.ref b2), .val (.int mm), .val (.int kk), .val (.int nm), .val (.int qq), .val (.int x1), .val (.int x2), .val (.int y1), .val (.int y2), .val (.int z1), .val (.int z2), .val (.ref oa), .val (.ref ob), .val (.ref oc), .val (.ref oa), .val (.ref oa), .val (.int tt), .val (.long (((((v0 + v1) + v2) + v3) + v4) + v5)), .second, .unset, .unset, .unset, .unset, .unset, .unset, .unset] [(.int (2 : Int32)), (.int kk), (.long ((s0 + s1) + s2))])) (T406.setTop (mkF m 483 #[.val (.int p1), .val (.long p2), .second, .val (.long p3), .second, .val (.long p4), .second, .val (.int sl), .val (.ref b1), .val (.ref b2), .val (.int mm), .val (.int kk), .val (.int nm), .val (.int qq), .val (.int x1), .val (.int x2), .val (.int y1), .val (.int y2), .val (.int z1), .val (.int z2), .val (.ref oa), .val (.ref ob), .val (.ref oc), .val (.ref oa), .val (.ref oa), .val (.int tt), .val (.long (((((v0 + v1) + v2) + v3) + v4) + v5)), .second, .unset, .unset, .unset, .unset, .unset, .unset, .unset] [(.int (2 : Int32)), (.int kk), (.long ((s0 + s1) + s2))])) := Steps.refl _
      have r410 : Steps p.tables e below (T406.setTop (mkF m 483 #[.val (.int p1), .val (.long p2), .second, .val (.long p3), .second, .val (.long p4), .second, .val (.int sl), .val (.ref b1), .val (.ref b2), .val (.int mm), .val (.int kk), .val (.int nm), .val (.int qq), .val (.int x1), .val (.int x2), .val (.int y1), .val (.int y2), .val (.int z1), .val (.int z2), .val (.ref oa), .val (.ref ob), .val (.ref oc), .val (.ref oa), .val (.ref oa), .val (.int tt), .val (.long (((((v0 + v1) + v2) + v3) + v4) + v5)), .second, .unset, .unset, .unset, .unset, .unset, .unset, .unset] [(.int (2 : Int32)), (.int kk), (.long ((s0 + s1) + s2))])) (T406.setTop (mkF m 491 #[.val (.int p1), .val (.long p2), .second, .val (.long p3), .second, .val (.long p4), .second, .val (.int sl), .val (.ref b1), .val (.ref b2), .val (.int mm), .val (.int kk), .val (.int nm), .val (.int qq), .val (.int x1), .val (.int x2), .val (.int y1), .val (.int y2), .val (.int z1), .val (.int z2), .val (.ref oa), .val (.ref ob), .val (.ref oc), .val (.ref oa), .val (.ref oa), .val (.int tt), .val (.long (((((v0 + v1) + v2) + v3) + v4) + v5)), .second, .unset, .unset, .unset, .unset, .unset, .unset, .unset] [(.int (0 : Int32)), (.long ((s0 + s1) + s2))])) := by
        refine q0.trans ?_
        show Steps p.tables e below (T406.setTop (mkF m 483 #[.val (.int p1), .val (.long p2), .second, .val (.long p3), .second, .val (.long p4), .second, .val (.int sl), .val (.ref b1), .val (.ref b2), .val (.int mm), .val (.int kk), .val (.int nm), .val (.int qq), .val (.int x1), .val (.int x2), .val (.int y1), .val (.int y2), .val (.int z1), .val (.int z2), .val (.ref oa), .val (.ref ob), .val (.ref oc), .val (.ref oa), .val (.ref oa), .val (.int tt), .val (.long (((((v0 + v1) + v2) + v3) + v4) + v5)), .second, .unset, .unset, .unset, .unset, .unset, .unset, .unset] [(.int (2 : Int32)), (.int kk), (.long ((s0 + s1) + s2))])) _
        refine XS.icmpYes X406.here hx rfl (pc0 := 483) (pc' := 490) rfl (hb hby at_483) rfl (tlt hf409).1 (by decide) (by decide) ?_
        show Steps p.tables e below (T406.setTop (mkF m 490 #[.val (.int p1), .val (.long p2), .second, .val (.long p3), .second, .val (.long p4), .second, .val (.int sl), .val (.ref b1), .val (.ref b2), .val (.int mm), .val (.int kk), .val (.int nm), .val (.int qq), .val (.int x1), .val (.int x2), .val (.int y1), .val (.int y2), .val (.int z1), .val (.int z2), .val (.ref oa), .val (.ref ob), .val (.ref oc), .val (.ref oa), .val (.ref oa), .val (.int tt), .val (.long (((((v0 + v1) + v2) + v3) + v4) + v5)), .second, .unset, .unset, .unset, .unset, .unset, .unset, .unset] [(.long ((s0 + s1) + s2))])) _
        refine XS.iconst X406.here hx rfl (hb hby at_490) ?_
        exact Steps.refl _
      exact r410
    · skip
      rw [show (if kk < (2 : Int32) then (0 : Int32) else (1 : Int32)) = (1 : Int32) from if_neg hf409]
      have q0 : Steps p.tables e below (T406.setTop (mkF m 483 #[.val (.int p1), .val (.long p2), .second, .val (.long p3), .second, .val (.long p4), .second, .val (.int sl), .val (.ref b1), .val (.ref b2), .val (.int mm), .val (.int kk), .val (.int nm), .val (.int qq), .val (.int x1), .val (.int x2), .val (.int y1), .val (.int y2), .val (.int z1), .val (.int z2), .val (.ref oa), .val (.ref ob), .val (.ref oc), .val (.ref oa), .val (.ref oa), .val (.int tt), .val (.long (((((v0 + v1) + v2) + v3) + v4) + v5)), .second, .unset, .unset, .unset, .unset, .unset, .unset, .unset] [(.int (2 : Int32)), (.int kk), (.long ((s0 + s1) + s2))])) (T406.setTop (mkF m 483 #[.val (.int p1), .val (.long p2), .second, .val (.long p3), .second, .val (.long p4), .second, .val (.int sl), .val (.ref b1), .val (.ref b2), .val (.int mm), .val (.int kk), .val (.int nm), .val (.int qq), .val (.int x1), .val (.int x2), .val (.int y1), .val (.int y2), .val (.int z1), .val (.int z2), .val (.ref oa), .val (.ref ob), .val (.ref oc), .val (.ref oa), .val (.ref oa), .val (.int tt), .val (.long (((((v0 + v1) + v2) + v3) + v4) + v5)), .second, .unset, .unset, .unset, .unset, .unset, .unset, .unset] [(.int (2 : Int32)), (.int kk), (.long ((s0 + s1) + s2))])) := Steps.refl _
      have r411 : Steps p.tables e below (T406.setTop (mkF m 483 #[.val (.int p1), .val (.long p2), .second, .val (.long p3), .second, .val (.long p4), .second, .val (.int sl), .val (.ref b1), .val (.ref b2), .val (.int mm), .val (.int kk), .val (.int nm), .val (.int qq), .val (.int x1), .val (.int x2), .val (.int y1), .val (.int y2), .val (.int z1), .val (.int z2), .val (.ref oa), .val (.ref ob), .val (.ref oc), .val (.ref oa), .val (.ref oa), .val (.int tt), .val (.long (((((v0 + v1) + v2) + v3) + v4) + v5)), .second, .unset, .unset, .unset, .unset, .unset, .unset, .unset] [(.int (2 : Int32)), (.int kk), (.long ((s0 + s1) + s2))])) (T406.setTop (mkF m 491 #[.val (.int p1), .val (.long p2), .second, .val (.long p3), .second, .val (.long p4), .second, .val (.int sl), .val (.ref b1), .val (.ref b2), .val (.int mm), .val (.int kk), .val (.int nm), .val (.int qq), .val (.int x1), .val (.int x2), .val (.int y1), .val (.int y2), .val (.int z1), .val (.int z2), .val (.ref oa), .val (.ref ob), .val (.ref oc), .val (.ref oa), .val (.ref oa), .val (.int tt), .val (.long (((((v0 + v1) + v2) + v3) + v4) + v5)), .second, .unset, .unset, .unset, .unset, .unset, .unset, .unset] [(.int (1 : Int32)), (.long ((s0 + s1) + s2))])) := by
        refine q0.trans ?_
        show Steps p.tables e below (T406.setTop (mkF m 483 #[.val (.int p1), .val (.long p2), .second, .val (.long p3), .second, .val (.long p4), .second, .val (.int sl), .val (.ref b1), .val (.ref b2), .val (.int mm), .val (.int kk), .val (.int nm), .val (.int qq), .val (.int x1), .val (.int x2), .val (.int y1), .val (.int y2), .val (.int z1), .val (.int z2), .val (.ref oa), .val (.ref ob), .val (.ref oc), .val (.ref oa), .val (.ref oa), .val (.int tt), .val (.long (((((v0 + v1) + v2) + v3) + v4) + v5)), .second, .unset, .unset, .unset, .unset, .unset, .unset, .unset] [(.int (2 : Int32)), (.int kk), (.long ((s0 + s1) + s2))])) _
        refine XS.icmpNo X406.here hx rfl (hb hby at_483) rfl (flt hf409).1 ?_
        show Steps p.tables e below (T406.setTop (mkF m 486 #[.val (.int p1), .val (.long p2), .second, .val (.long p3), .second, .val (.long p4), .second, .val (.int sl), .val (.ref b1), .val (.ref b2), .val (.int mm), .val (.int kk), .val (.int nm), .val (.int qq), .val (.int x1), .val (.int x2), .val (.int y1), .val (.int y2), .val (.int z1), .val (.int z2), .val (.ref oa), .val (.ref ob), .val (.ref oc), .val (.ref oa), .val (.ref oa), .val (.int tt), .val (.long (((((v0 + v1) + v2) + v3) + v4) + v5)), .second, .unset, .unset, .unset, .unset, .unset, .unset, .unset] [(.long ((s0 + s1) + s2))])) _
        refine XS.iconst X406.here hx rfl (hb hby at_486) ?_
        show Steps p.tables e below (T406.setTop (mkF m 487 #[.val (.int p1), .val (.long p2), .second, .val (.long p3), .second, .val (.long p4), .second, .val (.int sl), .val (.ref b1), .val (.ref b2), .val (.int mm), .val (.int kk), .val (.int nm), .val (.int qq), .val (.int x1), .val (.int x2), .val (.int y1), .val (.int y2), .val (.int z1), .val (.int z2), .val (.ref oa), .val (.ref ob), .val (.ref oc), .val (.ref oa), .val (.ref oa), .val (.int tt), .val (.long (((((v0 + v1) + v2) + v3) + v4) + v5)), .second, .unset, .unset, .unset, .unset, .unset, .unset, .unset] [(.int (1 : Int32)), (.long ((s0 + s1) + s2))])) _
        refine XS.goto X406.here hx rfl (pc0 := 487) (pc' := 491) rfl (hb hby at_487) (by decide) (by decide) ?_
        exact Steps.refl _
      exact r411
  obtain ⟨s3, hs3, ts3⟩ := own_sqr (m := kk) (c := 2) by2
  rw [← hB3] at ts3
  have r413 : Steps p.tables e below S0 (T406.setTop (mkF m 493 #[.val (.int p1), .val (.long p2), .second, .val (.long p3), .second, .val (.long p4), .second, .val (.int sl), .val (.ref b1), .val (.ref b2), .val (.int mm), .val (.int kk), .val (.int nm), .val (.int qq), .val (.int x1), .val (.int x2), .val (.int y1), .val (.int y2), .val (.int z1), .val (.int z2), .val (.ref oa), .val (.ref ob), .val (.ref oc), .val (.ref oa), .val (.ref oa), .val (.int tt), .val (.long (((((v0 + v1) + v2) + v3) + v4) + v5)), .second, .unset, .unset, .unset, .unset, .unset, .unset, .unset] [(.int y2), (.int (if kk < (2 : Int32) then (0 : Int32) else (1 : Int32))), (.long ((s0 + s1) + s2))])) := by
    refine r412.trans ?_
    show Steps p.tables e below (T406.setTop (mkF m 491 #[.val (.int p1), .val (.long p2), .second, .val (.long p3), .second, .val (.long p4), .second, .val (.int sl), .val (.ref b1), .val (.ref b2), .val (.int mm), .val (.int kk), .val (.int nm), .val (.int qq), .val (.int x1), .val (.int x2), .val (.int y1), .val (.int y2), .val (.int z1), .val (.int z2), .val (.ref oa), .val (.ref ob), .val (.ref oc), .val (.ref oa), .val (.ref oa), .val (.int tt), .val (.long (((((v0 + v1) + v2) + v3) + v4) + v5)), .second, .unset, .unset, .unset, .unset, .unset, .unset, .unset] [(.int (if kk < (2 : Int32) then (0 : Int32) else (1 : Int32))), (.long ((s0 + s1) + s2))])) _
    refine XS.iload X406.here hx rfl (hb hby at_491) rfl ?_
    exact Steps.refl _
  obtain ⟨_, _, ⟨T414, L414, k414, n414⟩, -, X414, ⟨Lc414, hQ414, l414, y414, z414⟩, st414⟩ := Jvm.LawKit.callS X406 hx (y := (⟨"org/rowfold/aggregate/MomentsCombinePinLaw", "sqr", "(ZI)J"⟩ : MethodName)) hown (mvT hZ (hw _ (List.mem_of_getElem? (i := 25) rfl))) (mvT hZ (hw _ (List.mem_of_getElem? (i := 26) rfl))) (mvT hZ (hw _ (List.mem_of_getElem? (i := 4) rfl))) (mvT hZ (hw _ (List.mem_of_getElem? (i := 27) rfl))) (by decide) (backOf (W := 2) (rmSq l Z a0 hw [] (if kk < (2 : Int32) then (0 : Int32) else (1 : Int32)) y2 s3 h0 n0 Z0 hs3) hZ (hw _ (List.mem_of_getElem? (i := 27) rfl)) (hw _ (List.mem_of_getElem? (i := 4) rfl)) (by decide) (by decide)) (g := (mkF m 493 #[.val (.int p1), .val (.long p2), .second, .val (.long p3), .second, .val (.long p4), .second, .val (.int sl), .val (.ref b1), .val (.ref b2), .val (.int mm), .val (.int kk), .val (.int nm), .val (.int qq), .val (.int x1), .val (.int x2), .val (.int y1), .val (.int y2), .val (.int z1), .val (.int z2), .val (.ref oa), .val (.ref ob), .val (.ref oc), .val (.ref oa), .val (.ref oa), .val (.int tt), .val (.long (((((v0 + v1) + v2) + v3) + v4) + v5)), .second, .unset, .unset, .unset, .unset, .unset, .unset, .unset] [(.int y2), (.int (if kk < (2 : Int32) then (0 : Int32) else (1 : Int32))), (.long ((s0 + s1) + s2))])) rfl (by rw [hml]; rfl) (argsL := [(.int (if kk < (2 : Int32) then (0 : Int32) else (1 : Int32))), (.int y2)]) (rest := [(.long ((s0 + s1) + s2))]) (lenOf pd_6 rfl) rfl (by show 2 * 0 + _ ≤ _; exact Nat.le_of_eq rfl) (hb hby at_493) (fun _ _ => ⟨rfl, e406, (by decide : (((5 + 0) + 0) + 0) + 0 ≤ _), (by decide : (((23 + 0) + 0) + 0) + 0 ≤ _)⟩)
  dsimp only [Pt.U, Pt.locs, Pt.cells, Pt.slots] at X414 l414 y414 z414 st414 hQ414
  subst l414 y414 z414
  obtain ⟨rfl, Nq414, e414⟩ := hQ414
  have N414 := Fr.app N406 Nq414
  have r415 : Steps p.tables e below S0 (T414.setTop (mkF m 496 #[.val (.int p1), .val (.long p2), .second, .val (.long p3), .second, .val (.long p4), .second, .val (.int sl), .val (.ref b1), .val (.ref b2), .val (.int mm), .val (.int kk), .val (.int nm), .val (.int qq), .val (.int x1), .val (.int x2), .val (.int y1), .val (.int y2), .val (.int z1), .val (.int z2), .val (.ref oa), .val (.ref ob), .val (.ref oc), .val (.ref oa), .val (.ref oa), .val (.int tt), .val (.long (((((v0 + v1) + v2) + v3) + v4) + v5)), .second, .unset, .unset, .unset, .unset, .unset, .unset, .unset] [(.long s3), (.long ((s0 + s1) + s2))])) := r413.trans (st414 _ (Steps.refl _))
  have r416 : Steps p.tables e below S0 (T414.setTop (mkF m 500 #[.val (.int p1), .val (.long p2), .second, .val (.long p3), .second, .val (.long p4), .second, .val (.int sl), .val (.ref b1), .val (.ref b2), .val (.int mm), .val (.int kk), .val (.int nm), .val (.int qq), .val (.int x1), .val (.int x2), .val (.int y1), .val (.int y2), .val (.int z1), .val (.int z2), .val (.ref oa), .val (.ref ob), .val (.ref oc), .val (.ref oa), .val (.ref oa), .val (.int tt), .val (.long (((((v0 + v1) + v2) + v3) + v4) + v5)), .second, .unset, .unset, .unset, .unset, .unset, .unset, .unset] [(.int (1 : Int32)), (.int qq), (.long (((s0 + s1) + s2) + s3))])) := by
    refine r415.trans ?_
    show Steps p.tables e below (T414.setTop (mkF m 496 #[.val (.int p1), .val (.long p2), .second, .val (.long p3), .second, .val (.long p4), .second, .val (.int sl), .val (.ref b1), .val (.ref b2), .val (.int mm), .val (.int kk), .val (.int nm), .val (.int qq), .val (.int x1), .val (.int x2), .val (.int y1), .val (.int y2), .val (.int z1), .val (.int z2), .val (.ref oa), .val (.ref ob), .val (.ref oc), .val (.ref oa), .val (.ref oa), .val (.int tt), .val (.long (((((v0 + v1) + v2) + v3) + v4) + v5)), .second, .unset, .unset, .unset, .unset, .unset, .unset, .unset] [(.long s3), (.long ((s0 + s1) + s2))])) _
    refine XS.ladd X414.here hx rfl (hb hby at_496) rfl ?_
    show Steps p.tables e below (T414.setTop (mkF m 497 #[.val (.int p1), .val (.long p2), .second, .val (.long p3), .second, .val (.long p4), .second, .val (.int sl), .val (.ref b1), .val (.ref b2), .val (.int mm), .val (.int kk), .val (.int nm), .val (.int qq), .val (.int x1), .val (.int x2), .val (.int y1), .val (.int y2), .val (.int z1), .val (.int z2), .val (.ref oa), .val (.ref ob), .val (.ref oc), .val (.ref oa), .val (.ref oa), .val (.int tt), .val (.long (((((v0 + v1) + v2) + v3) + v4) + v5)), .second, .unset, .unset, .unset, .unset, .unset, .unset, .unset] [(.long (((s0 + s1) + s2) + s3))])) _
    refine XS.iload X414.here hx rfl (hb hby at_497) rfl ?_
    show Steps p.tables e below (T414.setTop (mkF m 499 #[.val (.int p1), .val (.long p2), .second, .val (.long p3), .second, .val (.long p4), .second, .val (.int sl), .val (.ref b1), .val (.ref b2), .val (.int mm), .val (.int kk), .val (.int nm), .val (.int qq), .val (.int x1), .val (.int x2), .val (.int y1), .val (.int y2), .val (.int z1), .val (.int z2), .val (.ref oa), .val (.ref ob), .val (.ref oc), .val (.ref oa), .val (.ref oa), .val (.int tt), .val (.long (((((v0 + v1) + v2) + v3) + v4) + v5)), .second, .unset, .unset, .unset, .unset, .unset, .unset, .unset] [(.int qq), (.long (((s0 + s1) + s2) + s3))])) _
    refine XS.iconst X414.here hx rfl (hb hby at_499) ?_
    exact Steps.refl _
  have r420 : Steps p.tables e below S0 (T414.setTop (mkF m 508 #[.val (.int p1), .val (.long p2), .second, .val (.long p3), .second, .val (.long p4), .second, .val (.int sl), .val (.ref b1), .val (.ref b2), .val (.int mm), .val (.int kk), .val (.int nm), .val (.int qq), .val (.int x1), .val (.int x2), .val (.int y1), .val (.int y2), .val (.int z1), .val (.int z2), .val (.ref oa), .val (.ref ob), .val (.ref oc), .val (.ref oa), .val (.ref oa), .val (.int tt), .val (.long (((((v0 + v1) + v2) + v3) + v4) + v5)), .second, .unset, .unset, .unset, .unset, .unset, .unset, .unset] [(.int (if qq < (1 : Int32) then (0 : Int32) else (1 : Int32))), (.long (((s0 + s1) + s2) + s3))])) := by
    refine r416.trans ?_
    by_cases hf417 : qq < (1 : Int32)
    · skip
      rw [show (if qq < (1 : Int32) then (0 : Int32) else (1 : Int32)) = (0 : Int32) from if_pos hf417]
      have q0 : Steps p.tables e below (T414.setTop (mkF m 500 #[.val (.int p1), .val (.long p2), .second, .val (.long p3), .second, .val (.long p4), .second, .val (.int sl), .val (.ref b1), .val (.ref b2), .val (.int mm), .val (.int kk), .val (.int nm), .val (.int qq), .val (.int x1), .val (.int x2), .val (.int y1), .val (.int y2), .val (.int z1), .val (.int z2), .val (.ref oa), .val (.ref ob), .val (.ref oc), .val (.ref oa), .val (.ref oa), .val (.int tt), .val (.long (((((v0 + v1) + v2) + v3) + v4) + v5)), .second, .unset, .unset, .unset, .unset, .unset, .unset, .unset] [(.int (1 : Int32)), (.int qq), (.long (((s0 + s1) + s2) + s3))])) (T414.setTop (mkF m 500 #[.val (.int p1), .val (.long p2), .second, .val (.long p3), .second, .val (.long p4), .second, .val (.int sl), .val (.ref b1), .val (.ref b2), .val (.int mm), .val (.int kk), .val (.int nm), .val (.int qq), .val (.int x1), .val (.int x2), .val (.int y1), .val (.int y2), .val (.int z1), .val (.int z2), .val (.ref oa), .val (.ref ob), .val (.ref oc), .val (.ref oa), .val (.ref oa), .val (.int tt), .val (.long (((((v0 + v1) + v2) + v3) + v4) + v5)), .second, .unset, .unset, .unset, .unset, .unset, .unset, .unset] [(.int (1 : Int32)), (.int qq), (.long (((s0 + s1) + s2) + s3))])) := Steps.refl _
      have r418 : Steps p.tables e below (T414.setTop (mkF m 500 #[.val (.int p1), .val (.long p2), .second, .val (.long p3), .second, .val (.long p4), .second, .val (.int sl), .val (.ref b1), .val (.ref b2), .val (.int mm), .val (.int kk), .val (.int nm), .val (.int qq), .val (.int x1), .val (.int x2), .val (.int y1), .val (.int y2), .val (.int z1), .val (.int z2), .val (.ref oa), .val (.ref ob), .val (.ref oc), .val (.ref oa), .val (.ref oa), .val (.int tt), .val (.long (((((v0 + v1) + v2) + v3) + v4) + v5)), .second, .unset, .unset, .unset, .unset, .unset, .unset, .unset] [(.int (1 : Int32)), (.int qq), (.long (((s0 + s1) + s2) + s3))])) (T414.setTop (mkF m 508 #[.val (.int p1), .val (.long p2), .second, .val (.long p3), .second, .val (.long p4), .second, .val (.int sl), .val (.ref b1), .val (.ref b2), .val (.int mm), .val (.int kk), .val (.int nm), .val (.int qq), .val (.int x1), .val (.int x2), .val (.int y1), .val (.int y2), .val (.int z1), .val (.int z2), .val (.ref oa), .val (.ref ob), .val (.ref oc), .val (.ref oa), .val (.ref oa), .val (.int tt), .val (.long (((((v0 + v1) + v2) + v3) + v4) + v5)), .second, .unset, .unset, .unset, .unset, .unset, .unset, .unset] [(.int (0 : Int32)), (.long (((s0 + s1) + s2) + s3))])) := by
        refine q0.trans ?_
        show Steps p.tables e below (T414.setTop (mkF m 500 #[.val (.int p1), .val (.long p2), .second, .val (.long p3), .second, .val (.long p4), .second, .val (.int sl), .val (.ref b1), .val (.ref b2), .val (.int mm), .val (.int kk), .val (.int nm), .val (.int qq), .val (.int x1), .val (.int x2), .val (.int y1), .val (.int y2), .val (.int z1), .val (.int z2), .val (.ref oa), .val (.ref ob), .val (.ref oc), .val (.ref oa), .val (.ref oa), .val (.int tt), .val (.long (((((v0 + v1) + v2) + v3) + v4) + v5)), .second, .unset, .unset, .unset, .unset, .unset, .unset, .unset] [(.int (1 : Int32)), (.int qq), (.long (((s0 + s1) + s2) + s3))])) _
        refine XS.icmpYes X414.here hx rfl (pc0 := 500) (pc' := 507) rfl (hb hby at_500) rfl (tlt hf417).1 (by decide) (by decide) ?_
        show Steps p.tables e below (T414.setTop (mkF m 507 #[.val (.int p1), .val (.long p2), .second, .val (.long p3), .second, .val (.long p4), .second, .val (.int sl), .val (.ref b1), .val (.ref b2), .val (.int mm), .val (.int kk), .val (.int nm), .val (.int qq), .val (.int x1), .val (.int x2), .val (.int y1), .val (.int y2), .val (.int z1), .val (.int z2), .val (.ref oa), .val (.ref ob), .val (.ref oc), .val (.ref oa), .val (.ref oa), .val (.int tt), .val (.long (((((v0 + v1) + v2) + v3) + v4) + v5)), .second, .unset, .unset, .unset, .unset, .unset, .unset, .unset] [(.long (((s0 + s1) + s2) + s3))])) _
        refine XS.iconst X414.here hx rfl (hb hby at_507) ?_
        exact Steps.refl _
      exact r418
    · skip
      rw [show (if qq < (1 : Int32) then (0 : Int32) else (1 : Int32)) = (1 : Int32) from if_neg hf417]
      have q0 : Steps p.tables e below (T414.setTop (mkF m 500 #[.val (.int p1), .val (.long p2), .second, .val (.long p3), .second, .val (.long p4), .second, .val (.int sl), .val (.ref b1), .val (.ref b2), .val (.int mm), .val (.int kk), .val (.int nm), .val (.int qq), .val (.int x1), .val (.int x2), .val (.int y1), .val (.int y2), .val (.int z1), .val (.int z2), .val (.ref oa), .val (.ref ob), .val (.ref oc), .val (.ref oa), .val (.ref oa), .val (.int tt), .val (.long (((((v0 + v1) + v2) + v3) + v4) + v5)), .second, .unset, .unset, .unset, .unset, .unset, .unset, .unset] [(.int (1 : Int32)), (.int qq), (.long (((s0 + s1) + s2) + s3))])) (T414.setTop (mkF m 500 #[.val (.int p1), .val (.long p2), .second, .val (.long p3), .second, .val (.long p4), .second, .val (.int sl), .val (.ref b1), .val (.ref b2), .val (.int mm), .val (.int kk), .val (.int nm), .val (.int qq), .val (.int x1), .val (.int x2), .val (.int y1), .val (.int y2), .val (.int z1), .val (.int z2), .val (.ref oa), .val (.ref ob), .val (.ref oc), .val (.ref oa), .val (.ref oa), .val (.int tt), .val (.long (((((v0 + v1) + v2) + v3) + v4) + v5)), .second, .unset, .unset, .unset, .unset, .unset, .unset, .unset] [(.int (1 : Int32)), (.int qq), (.long (((s0 + s1) + s2) + s3))])) := Steps.refl _
      have r419 : Steps p.tables e below (T414.setTop (mkF m 500 #[.val (.int p1), .val (.long p2), .second, .val (.long p3), .second, .val (.long p4), .second, .val (.int sl), .val (.ref b1), .val (.ref b2), .val (.int mm), .val (.int kk), .val (.int nm), .val (.int qq), .val (.int x1), .val (.int x2), .val (.int y1), .val (.int y2), .val (.int z1), .val (.int z2), .val (.ref oa), .val (.ref ob), .val (.ref oc), .val (.ref oa), .val (.ref oa), .val (.int tt), .val (.long (((((v0 + v1) + v2) + v3) + v4) + v5)), .second, .unset, .unset, .unset, .unset, .unset, .unset, .unset] [(.int (1 : Int32)), (.int qq), (.long (((s0 + s1) + s2) + s3))])) (T414.setTop (mkF m 508 #[.val (.int p1), .val (.long p2), .second, .val (.long p3), .second, .val (.long p4), .second, .val (.int sl), .val (.ref b1), .val (.ref b2), .val (.int mm), .val (.int kk), .val (.int nm), .val (.int qq), .val (.int x1), .val (.int x2), .val (.int y1), .val (.int y2), .val (.int z1), .val (.int z2), .val (.ref oa), .val (.ref ob), .val (.ref oc), .val (.ref oa), .val (.ref oa), .val (.int tt), .val (.long (((((v0 + v1) + v2) + v3) + v4) + v5)), .second, .unset, .unset, .unset, .unset, .unset, .unset, .unset] [(.int (1 : Int32)), (.long (((s0 + s1) + s2) + s3))])) := by
        refine q0.trans ?_
        show Steps p.tables e below (T414.setTop (mkF m 500 #[.val (.int p1), .val (.long p2), .second, .val (.long p3), .second, .val (.long p4), .second, .val (.int sl), .val (.ref b1), .val (.ref b2), .val (.int mm), .val (.int kk), .val (.int nm), .val (.int qq), .val (.int x1), .val (.int x2), .val (.int y1), .val (.int y2), .val (.int z1), .val (.int z2), .val (.ref oa), .val (.ref ob), .val (.ref oc), .val (.ref oa), .val (.ref oa), .val (.int tt), .val (.long (((((v0 + v1) + v2) + v3) + v4) + v5)), .second, .unset, .unset, .unset, .unset, .unset, .unset, .unset] [(.int (1 : Int32)), (.int qq), (.long (((s0 + s1) + s2) + s3))])) _
        refine XS.icmpNo X414.here hx rfl (hb hby at_500) rfl (flt hf417).1 ?_
        show Steps p.tables e below (T414.setTop (mkF m 503 #[.val (.int p1), .val (.long p2), .second, .val (.long p3), .second, .val (.long p4), .second, .val (.int sl), .val (.ref b1), .val (.ref b2), .val (.int mm), .val (.int kk), .val (.int nm), .val (.int qq), .val (.int x1), .val (.int x2), .val (.int y1), .val (.int y2), .val (.int z1), .val (.int z2), .val (.ref oa), .val (.ref ob), .val (.ref oc), .val (.ref oa), .val (.ref oa), .val (.int tt), .val (.long (((((v0 + v1) + v2) + v3) + v4) + v5)), .second, .unset, .unset, .unset, .unset, .unset, .unset, .unset] [(.long (((s0 + s1) + s2) + s3))])) _
        refine XS.iconst X414.here hx rfl (hb hby at_503) ?_
        show Steps p.tables e below (T414.setTop (mkF m 504 #[.val (.int p1), .val (.long p2), .second, .val (.long p3), .second, .val (.long p4), .second, .val (.int sl), .val (.ref b1), .val (.ref b2), .val (.int mm), .val (.int kk), .val (.int nm), .val (.int qq), .val (.int x1), .val (.int x2), .val (.int y1), .val (.int y2), .val (.int z1), .val (.int z2), .val (.ref oa), .val (.ref ob), .val (.ref oc), .val (.ref oa), .val (.ref oa), .val (.int tt), .val (.long (((((v0 + v1) + v2) + v3) + v4) + v5)), .second, .unset, .unset, .unset, .unset, .unset, .unset, .unset] [(.int (1 : Int32)), (.long (((s0 + s1) + s2) + s3))])) _
        refine XS.goto X414.here hx rfl (pc0 := 504) (pc' := 508) rfl (hb hby at_504) (by decide) (by decide) ?_
        exact Steps.refl _
      exact r419
  obtain ⟨s4, hs4, ts4⟩ := own_sqr (m := qq) (c := 1) bz1
  rw [← hB4] at ts4
  have r421 : Steps p.tables e below S0 (T414.setTop (mkF m 510 #[.val (.int p1), .val (.long p2), .second, .val (.long p3), .second, .val (.long p4), .second, .val (.int sl), .val (.ref b1), .val (.ref b2), .val (.int mm), .val (.int kk), .val (.int nm), .val (.int qq), .val (.int x1), .val (.int x2), .val (.int y1), .val (.int y2), .val (.int z1), .val (.int z2), .val (.ref oa), .val (.ref ob), .val (.ref oc), .val (.ref oa), .val (.ref oa), .val (.int tt), .val (.long (((((v0 + v1) + v2) + v3) + v4) + v5)), .second, .unset, .unset, .unset, .unset, .unset, .unset, .unset] [(.int z1), (.int (if qq < (1 : Int32) then (0 : Int32) else (1 : Int32))), (.long (((s0 + s1) + s2) + s3))])) := by
    refine r420.trans ?_
    show Steps p.tables e below (T414.setTop (mkF m 508 #[.val (.int p1), .val (.long p2), .second, .val (.long p3), .second, .val (.long p4), .second, .val (.int sl), .val (.ref b1), .val (.ref b2), .val (.int mm), .val (.int kk), .val (.int nm), .val (.int qq), .val (.int x1), .val (.int x2), .val (.int y1), .val (.int y2), .val (.int z1), .val (.int z2), .val (.ref oa), .val (.ref ob), .val (.ref oc), .val (.ref oa), .val (.ref oa), .val (.int tt), .val (.long (((((v0 + v1) + v2) + v3) + v4) + v5)), .second, .unset, .unset, .unset, .unset, .unset, .unset, .unset] [(.int (if qq < (1 : Int32) then (0 : Int32) else (1 : Int32))), (.long (((s0 + s1) + s2) + s3))])) _
    refine XS.iload X414.here hx rfl (hb hby at_508) rfl ?_
    exact Steps.refl _
  obtain ⟨_, _, ⟨T422, L422, k422, n422⟩, -, X422, ⟨Lc422, hQ422, l422, y422, z422⟩, st422⟩ := Jvm.LawKit.callS X414 hx (y := (⟨"org/rowfold/aggregate/MomentsCombinePinLaw", "sqr", "(ZI)J"⟩ : MethodName)) hown (mvT hZ (hw _ (List.mem_of_getElem? (i := 25) rfl))) (mvT hZ (hw _ (List.mem_of_getElem? (i := 26) rfl))) (mvT hZ (hw _ (List.mem_of_getElem? (i := 4) rfl))) (mvT hZ (hw _ (List.mem_of_getElem? (i := 27) rfl))) (by decide) (backOf (W := 2) (rmSq l Z a0 hw [] (if qq < (1 : Int32) then (0 : Int32) else (1 : Int32)) z1 s4 h0 n0 Z0 hs4) hZ (hw _ (List.mem_of_getElem? (i := 27) rfl)) (hw _ (List.mem_of_getElem? (i := 4) rfl)) (by decide) (by decide)) (g := (mkF m 510 #[.val (.int p1), .val (.long p2), .second, .val (.long p3), .second, .val (.long p4), .second, .val (.int sl), .val (.ref b1), .val (.ref b2), .val (.int mm), .val (.int kk), .val (.int nm), .val (.int qq), .val (.int x1), .val (.int x2), .val (.int y1), .val (.int y2), .val (.int z1), .val (.int z2), .val (.ref oa), .val (.ref ob), .val (.ref oc), .val (.ref oa), .val (.ref oa), .val (.int tt), .val (.long (((((v0 + v1) + v2) + v3) + v4) + v5)), .second, .unset, .unset, .unset, .unset, .unset, .unset, .unset] [(.int z1), (.int (if qq < (1 : Int32) then (0 : Int32) else (1 : Int32))), (.long (((s0 + s1) + s2) + s3))])) rfl (by rw [hml]; rfl) (argsL := [(.int (if qq < (1 : Int32) then (0 : Int32) else (1 : Int32))), (.int z1)]) (rest := [(.long (((s0 + s1) + s2) + s3))]) (lenOf pd_6 rfl) rfl (by show 2 * 0 + _ ≤ _; exact Nat.le_of_eq rfl) (hb hby at_510) (fun _ _ => ⟨rfl, e414, (by decide : ((((5 + 0) + 0) + 0) + 0) + 0 ≤ _), (by decide : ((((23 + 0) + 0) + 0) + 0) + 0 ≤ _)⟩)
  dsimp only [Pt.U, Pt.locs, Pt.cells, Pt.slots] at X422 l422 y422 z422 st422 hQ422
  subst l422 y422 z422
  obtain ⟨rfl, Nq422, e422⟩ := hQ422
  have N422 := Fr.app N414 Nq422
  have r423 : Steps p.tables e below S0 (T422.setTop (mkF m 513 #[.val (.int p1), .val (.long p2), .second, .val (.long p3), .second, .val (.long p4), .second, .val (.int sl), .val (.ref b1), .val (.ref b2), .val (.int mm), .val (.int kk), .val (.int nm), .val (.int qq), .val (.int x1), .val (.int x2), .val (.int y1), .val (.int y2), .val (.int z1), .val (.int z2), .val (.ref oa), .val (.ref ob), .val (.ref oc), .val (.ref oa), .val (.ref oa), .val (.int tt), .val (.long (((((v0 + v1) + v2) + v3) + v4) + v5)), .second, .unset, .unset, .unset, .unset, .unset, .unset, .unset] [(.long s4), (.long (((s0 + s1) + s2) + s3))])) := r421.trans (st422 _ (Steps.refl _))
  have r424 : Steps p.tables e below S0 (T422.setTop (mkF m 517 #[.val (.int p1), .val (.long p2), .second, .val (.long p3), .second, .val (.long p4), .second, .val (.int sl), .val (.ref b1), .val (.ref b2), .val (.int mm), .val (.int kk), .val (.int nm), .val (.int qq), .val (.int x1), .val (.int x2), .val (.int y1), .val (.int y2), .val (.int z1), .val (.int z2), .val (.ref oa), .val (.ref ob), .val (.ref oc), .val (.ref oa), .val (.ref oa), .val (.int tt), .val (.long (((((v0 + v1) + v2) + v3) + v4) + v5)), .second, .unset, .unset, .unset, .unset, .unset, .unset, .unset] [(.int (2 : Int32)), (.int qq), (.long ((((s0 + s1) + s2) + s3) + s4))])) := by
    refine r423.trans ?_
    show Steps p.tables e below (T422.setTop (mkF m 513 #[.val (.int p1), .val (.long p2), .second, .val (.long p3), .second, .val (.long p4), .second, .val (.int sl), .val (.ref b1), .val (.ref b2), .val (.int mm), .val (.int kk), .val (.int nm), .val (.int qq), .val (.int x1), .val (.int x2), .val (.int y1), .val (.int y2), .val (.int z1), .val (.int z2), .val (.ref oa), .val (.ref ob), .val (.ref oc), .val (.ref oa), .val (.ref oa), .val (.int tt), .val (.long (((((v0 + v1) + v2) + v3) + v4) + v5)), .second, .unset, .unset, .unset, .unset, .unset, .unset, .unset] [(.long s4), (.long (((s0 + s1) + s2) + s3))])) _
    refine XS.ladd X422.here hx rfl (hb hby at_513) rfl ?_
    show Steps p.tables e below (T422.setTop (mkF m 514 #[.val (.int p1), .val (.long p2), .second, .val (.long p3), .second, .val (.long p4), .second, .val (.int sl), .val (.ref b1), .val (.ref b2), .val (.int mm), .val (.int kk), .val (.int nm), .val (.int qq), .val (.int x1), .val (.int x2), .val (.int y1), .val (.int y2), .val (.int z1), .val (.int z2), .val (.ref oa), .val (.ref ob), .val (.ref oc), .val (.ref oa), .val (.ref oa), .val (.int tt), .val (.long (((((v0 + v1) + v2) + v3) + v4) + v5)), .second, .unset, .unset, .unset, .unset, .unset, .unset, .unset] [(.long ((((s0 + s1) + s2) + s3) + s4))])) _
    refine XS.iload X422.here hx rfl (hb hby at_514) rfl ?_
    show Steps p.tables e below (T422.setTop (mkF m 516 #[.val (.int p1), .val (.long p2), .second, .val (.long p3), .second, .val (.long p4), .second, .val (.int sl), .val (.ref b1), .val (.ref b2), .val (.int mm), .val (.int kk), .val (.int nm), .val (.int qq), .val (.int x1), .val (.int x2), .val (.int y1), .val (.int y2), .val (.int z1), .val (.int z2), .val (.ref oa), .val (.ref ob), .val (.ref oc), .val (.ref oa), .val (.ref oa), .val (.int tt), .val (.long (((((v0 + v1) + v2) + v3) + v4) + v5)), .second, .unset, .unset, .unset, .unset, .unset, .unset, .unset] [(.int qq), (.long ((((s0 + s1) + s2) + s3) + s4))])) _
    refine XS.iconst X422.here hx rfl (hb hby at_516) ?_
    exact Steps.refl _
  have r428 : Steps p.tables e below S0 (T422.setTop (mkF m 525 #[.val (.int p1), .val (.long p2), .second, .val (.long p3), .second, .val (.long p4), .second, .val (.int sl), .val (.ref b1), .val (.ref b2), .val (.int mm), .val (.int kk), .val (.int nm), .val (.int qq), .val (.int x1), .val (.int x2), .val (.int y1), .val (.int y2), .val (.int z1), .val (.int z2), .val (.ref oa), .val (.ref ob), .val (.ref oc), .val (.ref oa), .val (.ref oa), .val (.int tt), .val (.long (((((v0 + v1) + v2) + v3) + v4) + v5)), .second, .unset, .unset, .unset, .unset, .unset, .unset, .unset] [(.int (if qq < (2 : Int32) then (0 : Int32) else (1 : Int32))), (.long ((((s0 + s1) + s2) + s3) + s4))])) := by
    refine r424.trans ?_
    by_cases hf425 : qq < (2 : Int32)
    · skip
      rw [show (if qq < (2 : Int32) then (0 : Int32) else (1 : Int32)) = (0 : Int32) from if_pos hf425]
      have q0 : Steps p.tables e below (T422.setTop (mkF m 517 #[.val (.int p1), .val (.long p2), .second, .val (.long p3), .second, .val (.long p4), .second, .val (.int sl), .val (.ref b1), .val (.ref b2), .val (.int mm), .val (.int kk), .val (.int nm), .val (.int qq), .val (.int x1), .val (.int x2), .val (.int y1), .val (.int y2), .val (.int z1), .val (.int z2), .val (.ref oa), .val (.ref ob), .val (.ref oc), .val (.ref oa), .val (.ref oa), .val (.int tt), .val (.long (((((v0 + v1) + v2) + v3) + v4) + v5)), .second, .unset, .unset, .unset, .unset, .unset, .unset, .unset] [(.int (2 : Int32)), (.int qq), (.long ((((s0 + s1) + s2) + s3) + s4))])) (T422.setTop (mkF m 517 #[.val (.int p1), .val (.long p2), .second, .val (.long p3), .second, .val (.long p4), .second, .val (.int sl), .val (.ref b1), .val (.ref b2), .val (.int mm), .val (.int kk), .val (.int nm), .val (.int qq), .val (.int x1), .val (.int x2), .val (.int y1), .val (.int y2), .val (.int z1), .val (.int z2), .val (.ref oa), .val (.ref ob), .val (.ref oc), .val (.ref oa), .val (.ref oa), .val (.int tt), .val (.long (((((v0 + v1) + v2) + v3) + v4) + v5)), .second, .unset, .unset, .unset, .unset, .unset, .unset, .unset] [(.int (2 : Int32)), (.int qq), (.long ((((s0 + s1) + s2) + s3) + s4))])) := Steps.refl _
      have r426 : Steps p.tables e below (T422.setTop (mkF m 517 #[.val (.int p1), .val (.long p2), .second, .val (.long p3), .second, .val (.long p4), .second, .val (.int sl), .val (.ref b1), .val (.ref b2), .val (.int mm), .val (.int kk), .val (.int nm), .val (.int qq), .val (.int x1), .val (.int x2), .val (.int y1), .val (.int y2), .val (.int z1), .val (.int z2), .val (.ref oa), .val (.ref ob), .val (.ref oc), .val (.ref oa), .val (.ref oa), .val (.int tt), .val (.long (((((v0 + v1) + v2) + v3) + v4) + v5)), .second, .unset, .unset, .unset, .unset, .unset, .unset, .unset] [(.int (2 : Int32)), (.int qq), (.long ((((s0 + s1) + s2) + s3) + s4))])) (T422.setTop (mkF m 525 #[.val (.int p1), .val (.long p2), .second, .val (.long p3), .second, .val (.long p4), .second, .val (.int sl), .val (.ref b1), .val (.ref b2), .val (.int mm), .val (.int kk), .val (.int nm), .val (.int qq), .val (.int x1), .val (.int x2), .val (.int y1), .val (.int y2), .val (.int z1), .val (.int z2), .val (.ref oa), .val (.ref ob), .val (.ref oc), .val (.ref oa), .val (.ref oa), .val (.int tt), .val (.long (((((v0 + v1) + v2) + v3) + v4) + v5)), .second, .unset, .unset, .unset, .unset, .unset, .unset, .unset] [(.int (0 : Int32)), (.long ((((s0 + s1) + s2) + s3) + s4))])) := by
        refine q0.trans ?_
        show Steps p.tables e below (T422.setTop (mkF m 517 #[.val (.int p1), .val (.long p2), .second, .val (.long p3), .second, .val (.long p4), .second, .val (.int sl), .val (.ref b1), .val (.ref b2), .val (.int mm), .val (.int kk), .val (.int nm), .val (.int qq), .val (.int x1), .val (.int x2), .val (.int y1), .val (.int y2), .val (.int z1), .val (.int z2), .val (.ref oa), .val (.ref ob), .val (.ref oc), .val (.ref oa), .val (.ref oa), .val (.int tt), .val (.long (((((v0 + v1) + v2) + v3) + v4) + v5)), .second, .unset, .unset, .unset, .unset, .unset, .unset, .unset] [(.int (2 : Int32)), (.int qq), (.long ((((s0 + s1) + s2) + s3) + s4))])) _
        refine XS.icmpYes X422.here hx rfl (pc0 := 517) (pc' := 524) rfl (hb hby at_517) rfl (tlt hf425).1 (by decide) (by decide) ?_
        show Steps p.tables e below (T422.setTop (mkF m 524 #[.val (.int p1), .val (.long p2), .second, .val (.long p3), .second, .val (.long p4), .second, .val (.int sl), .val (.ref b1), .val (.ref b2), .val (.int mm), .val (.int kk), .val (.int nm), .val (.int qq), .val (.int x1), .val (.int x2), .val (.int y1), .val (.int y2), .val (.int z1), .val (.int z2), .val (.ref oa), .val (.ref ob), .val (.ref oc), .val (.ref oa), .val (.ref oa), .val (.int tt), .val (.long (((((v0 + v1) + v2) + v3) + v4) + v5)), .second, .unset, .unset, .unset, .unset, .unset, .unset, .unset] [(.long ((((s0 + s1) + s2) + s3) + s4))])) _
        refine XS.iconst X422.here hx rfl (hb hby at_524) ?_
        exact Steps.refl _
      exact r426
    · skip
      rw [show (if qq < (2 : Int32) then (0 : Int32) else (1 : Int32)) = (1 : Int32) from if_neg hf425]
      have q0 : Steps p.tables e below (T422.setTop (mkF m 517 #[.val (.int p1), .val (.long p2), .second, .val (.long p3), .second, .val (.long p4), .second, .val (.int sl), .val (.ref b1), .val (.ref b2), .val (.int mm), .val (.int kk), .val (.int nm), .val (.int qq), .val (.int x1), .val (.int x2), .val (.int y1), .val (.int y2), .val (.int z1), .val (.int z2), .val (.ref oa), .val (.ref ob), .val (.ref oc), .val (.ref oa), .val (.ref oa), .val (.int tt), .val (.long (((((v0 + v1) + v2) + v3) + v4) + v5)), .second, .unset, .unset, .unset, .unset, .unset, .unset, .unset] [(.int (2 : Int32)), (.int qq), (.long ((((s0 + s1) + s2) + s3) + s4))])) (T422.setTop (mkF m 517 #[.val (.int p1), .val (.long p2), .second, .val (.long p3), .second, .val (.long p4), .second, .val (.int sl), .val (.ref b1), .val (.ref b2), .val (.int mm), .val (.int kk), .val (.int nm), .val (.int qq), .val (.int x1), .val (.int x2), .val (.int y1), .val (.int y2), .val (.int z1), .val (.int z2), .val (.ref oa), .val (.ref ob), .val (.ref oc), .val (.ref oa), .val (.ref oa), .val (.int tt), .val (.long (((((v0 + v1) + v2) + v3) + v4) + v5)), .second, .unset, .unset, .unset, .unset, .unset, .unset, .unset] [(.int (2 : Int32)), (.int qq), (.long ((((s0 + s1) + s2) + s3) + s4))])) := Steps.refl _
      have r427 : Steps p.tables e below (T422.setTop (mkF m 517 #[.val (.int p1), .val (.long p2), .second, .val (.long p3), .second, .val (.long p4), .second, .val (.int sl), .val (.ref b1), .val (.ref b2), .val (.int mm), .val (.int kk), .val (.int nm), .val (.int qq), .val (.int x1), .val (.int x2), .val (.int y1), .val (.int y2), .val (.int z1), .val (.int z2), .val (.ref oa), .val (.ref ob), .val (.ref oc), .val (.ref oa), .val (.ref oa), .val (.int tt), .val (.long (((((v0 + v1) + v2) + v3) + v4) + v5)), .second, .unset, .unset, .unset, .unset, .unset, .unset, .unset] [(.int (2 : Int32)), (.int qq), (.long ((((s0 + s1) + s2) + s3) + s4))])) (T422.setTop (mkF m 525 #[.val (.int p1), .val (.long p2), .second, .val (.long p3), .second, .val (.long p4), .second, .val (.int sl), .val (.ref b1), .val (.ref b2), .val (.int mm), .val (.int kk), .val (.int nm), .val (.int qq), .val (.int x1), .val (.int x2), .val (.int y1), .val (.int y2), .val (.int z1), .val (.int z2), .val (.ref oa), .val (.ref ob), .val (.ref oc), .val (.ref oa), .val (.ref oa), .val (.int tt), .val (.long (((((v0 + v1) + v2) + v3) + v4) + v5)), .second, .unset, .unset, .unset, .unset, .unset, .unset, .unset] [(.int (1 : Int32)), (.long ((((s0 + s1) + s2) + s3) + s4))])) := by
        refine q0.trans ?_
        show Steps p.tables e below (T422.setTop (mkF m 517 #[.val (.int p1), .val (.long p2), .second, .val (.long p3), .second, .val (.long p4), .second, .val (.int sl), .val (.ref b1), .val (.ref b2), .val (.int mm), .val (.int kk), .val (.int nm), .val (.int qq), .val (.int x1), .val (.int x2), .val (.int y1), .val (.int y2), .val (.int z1), .val (.int z2), .val (.ref oa), .val (.ref ob), .val (.ref oc), .val (.ref oa), .val (.ref oa), .val (.int tt), .val (.long (((((v0 + v1) + v2) + v3) + v4) + v5)), .second, .unset, .unset, .unset, .unset, .unset, .unset, .unset] [(.int (2 : Int32)), (.int qq), (.long ((((s0 + s1) + s2) + s3) + s4))])) _
        refine XS.icmpNo X422.here hx rfl (hb hby at_517) rfl (flt hf425).1 ?_
        show Steps p.tables e below (T422.setTop (mkF m 520 #[.val (.int p1), .val (.long p2), .second, .val (.long p3), .second, .val (.long p4), .second, .val (.int sl), .val (.ref b1), .val (.ref b2), .val (.int mm), .val (.int kk), .val (.int nm), .val (.int qq), .val (.int x1), .val (.int x2), .val (.int y1), .val (.int y2), .val (.int z1), .val (.int z2), .val (.ref oa), .val (.ref ob), .val (.ref oc), .val (.ref oa), .val (.ref oa), .val (.int tt), .val (.long (((((v0 + v1) + v2) + v3) + v4) + v5)), .second, .unset, .unset, .unset, .unset, .unset, .unset, .unset] [(.long ((((s0 + s1) + s2) + s3) + s4))])) _
        refine XS.iconst X422.here hx rfl (hb hby at_520) ?_
        show Steps p.tables e below (T422.setTop (mkF m 521 #[.val (.int p1), .val (.long p2), .second, .val (.long p3), .second, .val (.long p4), .second, .val (.int sl), .val (.ref b1), .val (.ref b2), .val (.int mm), .val (.int kk), .val (.int nm), .val (.int qq), .val (.int x1), .val (.int x2), .val (.int y1), .val (.int y2), .val (.int z1), .val (.int z2), .val (.ref oa), .val (.ref ob), .val (.ref oc), .val (.ref oa), .val (.ref oa), .val (.int tt), .val (.long (((((v0 + v1) + v2) + v3) + v4) + v5)), .second, .unset, .unset, .unset, .unset, .unset, .unset, .unset] [(.int (1 : Int32)), (.long ((((s0 + s1) + s2) + s3) + s4))])) _
        refine XS.goto X422.here hx rfl (pc0 := 521) (pc' := 525) rfl (hb hby at_521) (by decide) (by decide) ?_
        exact Steps.refl _
      exact r427
  obtain ⟨s5, hs5, ts5⟩ := own_sqr (m := qq) (c := 2) bz2
  rw [← hB5] at ts5
  have r429 : Steps p.tables e below S0 (T422.setTop (mkF m 527 #[.val (.int p1), .val (.long p2), .second, .val (.long p3), .second, .val (.long p4), .second, .val (.int sl), .val (.ref b1), .val (.ref b2), .val (.int mm), .val (.int kk), .val (.int nm), .val (.int qq), .val (.int x1), .val (.int x2), .val (.int y1), .val (.int y2), .val (.int z1), .val (.int z2), .val (.ref oa), .val (.ref ob), .val (.ref oc), .val (.ref oa), .val (.ref oa), .val (.int tt), .val (.long (((((v0 + v1) + v2) + v3) + v4) + v5)), .second, .unset, .unset, .unset, .unset, .unset, .unset, .unset] [(.int z2), (.int (if qq < (2 : Int32) then (0 : Int32) else (1 : Int32))), (.long ((((s0 + s1) + s2) + s3) + s4))])) := by
    refine r428.trans ?_
    show Steps p.tables e below (T422.setTop (mkF m 525 #[.val (.int p1), .val (.long p2), .second, .val (.long p3), .second, .val (.long p4), .second, .val (.int sl), .val (.ref b1), .val (.ref b2), .val (.int mm), .val (.int kk), .val (.int nm), .val (.int qq), .val (.int x1), .val (.int x2), .val (.int y1), .val (.int y2), .val (.int z1), .val (.int z2), .val (.ref oa), .val (.ref ob), .val (.ref oc), .val (.ref oa), .val (.ref oa), .val (.int tt), .val (.long (((((v0 + v1) + v2) + v3) + v4) + v5)), .second, .unset, .unset, .unset, .unset, .unset, .unset, .unset] [(.int (if qq < (2 : Int32) then (0 : Int32) else (1 : Int32))), (.long ((((s0 + s1) + s2) + s3) + s4))])) _
    refine XS.iload X422.here hx rfl (hb hby at_525) rfl ?_
    exact Steps.refl _
  obtain ⟨_, _, ⟨T430, L430, k430, n430⟩, -, X430, ⟨Lc430, hQ430, l430, y430, z430⟩, st430⟩ := Jvm.LawKit.callS X422 hx (y := (⟨"org/rowfold/aggregate/MomentsCombinePinLaw", "sqr", "(ZI)J"⟩ : MethodName)) hown (mvT hZ (hw _ (List.mem_of_getElem? (i := 25) rfl))) (mvT hZ (hw _ (List.mem_of_getElem? (i := 26) rfl))) (mvT hZ (hw _ (List.mem_of_getElem? (i := 4) rfl))) (mvT hZ (hw _ (List.mem_of_getElem? (i := 27) rfl))) (by decide) (backOf (W := 2) (rmSq l Z a0 hw [] (if qq < (2 : Int32) then (0 : Int32) else (1 : Int32)) z2 s5 h0 n0 Z0 hs5) hZ (hw _ (List.mem_of_getElem? (i := 27) rfl)) (hw _ (List.mem_of_getElem? (i := 4) rfl)) (by decide) (by decide)) (g := (mkF m 527 #[.val (.int p1), .val (.long p2), .second, .val (.long p3), .second, .val (.long p4), .second, .val (.int sl), .val (.ref b1), .val (.ref b2), .val (.int mm), .val (.int kk), .val (.int nm), .val (.int qq), .val (.int x1), .val (.int x2), .val (.int y1), .val (.int y2), .val (.int z1), .val (.int z2), .val (.ref oa), .val (.ref ob), .val (.ref oc), .val (.ref oa), .val (.ref oa), .val (.int tt), .val (.long (((((v0 + v1) + v2) + v3) + v4) + v5)), .second, .unset, .unset, .unset, .unset, .unset, .unset, .unset] [(.int z2), (.int (if qq < (2 : Int32) then (0 : Int32) else (1 : Int32))), (.long ((((s0 + s1) + s2) + s3) + s4))])) rfl (by rw [hml]; rfl) (argsL := [(.int (if qq < (2 : Int32) then (0 : Int32) else (1 : Int32))), (.int z2)]) (rest := [(.long ((((s0 + s1) + s2) + s3) + s4))]) (lenOf pd_6 rfl) rfl (by show 2 * 0 + _ ≤ _; exact Nat.le_of_eq rfl) (hb hby at_527) (fun _ _ => ⟨rfl, e422, (by decide : (((((5 + 0) + 0) + 0) + 0) + 0) + 0 ≤ _), (by decide : (((((23 + 0) + 0) + 0) + 0) + 0) + 0 ≤ _)⟩)
  dsimp only [Pt.U, Pt.locs, Pt.cells, Pt.slots] at X430 l430 y430 z430 st430 hQ430
  subst l430 y430 z430
  obtain ⟨rfl, Nq430, e430⟩ := hQ430
  have N430 := Fr.app N422 Nq430
  have r431 : Steps p.tables e below S0 (T430.setTop (mkF m 530 #[.val (.int p1), .val (.long p2), .second, .val (.long p3), .second, .val (.long p4), .second, .val (.int sl), .val (.ref b1), .val (.ref b2), .val (.int mm), .val (.int kk), .val (.int nm), .val (.int qq), .val (.int x1), .val (.int x2), .val (.int y1), .val (.int y2), .val (.int z1), .val (.int z2), .val (.ref oa), .val (.ref ob), .val (.ref oc), .val (.ref oa), .val (.ref oa), .val (.int tt), .val (.long (((((v0 + v1) + v2) + v3) + v4) + v5)), .second, .unset, .unset, .unset, .unset, .unset, .unset, .unset] [(.long s5), (.long ((((s0 + s1) + s2) + s3) + s4))])) := r429.trans (st430 _ (Steps.refl _))
  have r432 : Steps p.tables e below S0 (T430.setTop (mkF m 533 #[.val (.int p1), .val (.long p2), .second, .val (.long p3), .second, .val (.long p4), .second, .val (.int sl), .val (.ref b1), .val (.ref b2), .val (.int mm), .val (.int kk), .val (.int nm), .val (.int qq), .val (.int x1), .val (.int x2), .val (.int y1), .val (.int y2), .val (.int z1), .val (.int z2), .val (.ref oa), .val (.ref ob), .val (.ref oc), .val (.ref oa), .val (.ref oa), .val (.int tt), .val (.long (((((v0 + v1) + v2) + v3) + v4) + v5)), .second, .val (.long (((((s0 + s1) + s2) + s3) + s4) + s5)), .second, .unset, .unset, .unset, .unset, .unset] [])) := by
    refine r431.trans ?_
    show Steps p.tables e below (T430.setTop (mkF m 530 #[.val (.int p1), .val (.long p2), .second, .val (.long p3), .second, .val (.long p4), .second, .val (.int sl), .val (.ref b1), .val (.ref b2), .val (.int mm), .val (.int kk), .val (.int nm), .val (.int qq), .val (.int x1), .val (.int x2), .val (.int y1), .val (.int y2), .val (.int z1), .val (.int z2), .val (.ref oa), .val (.ref ob), .val (.ref oc), .val (.ref oa), .val (.ref oa), .val (.int tt), .val (.long (((((v0 + v1) + v2) + v3) + v4) + v5)), .second, .unset, .unset, .unset, .unset, .unset, .unset, .unset] [(.long s5), (.long ((((s0 + s1) + s2) + s3) + s4))])) _
    refine XS.ladd X430.here hx rfl (hb hby at_530) rfl ?_
    show Steps p.tables e below (T430.setTop (mkF m 531 #[.val (.int p1), .val (.long p2), .second, .val (.long p3), .second, .val (.long p4), .second, .val (.int sl), .val (.ref b1), .val (.ref b2), .val (.int mm), .val (.int kk), .val (.int nm), .val (.int qq), .val (.int x1), .val (.int x2), .val (.int y1), .val (.int y2), .val (.int z1), .val (.int z2), .val (.ref oa), .val (.ref ob), .val (.ref oc), .val (.ref oa), .val (.ref oa), .val (.int tt), .val (.long (((((v0 + v1) + v2) + v3) + v4) + v5)), .second, .unset, .unset, .unset, .unset, .unset, .unset, .unset] [(.long (((((s0 + s1) + s2) + s3) + s4) + s5))])) _
    refine XS.lstore X430.here hx rfl (hb hby at_531) rfl (l' := #[.val (.int p1), .val (.long p2), .second, .val (.long p3), .second, .val (.long p4), .second, .val (.int sl), .val (.ref b1), .val (.ref b2), .val (.int mm), .val (.int kk), .val (.int nm), .val (.int qq), .val (.int x1), .val (.int x2), .val (.int y1), .val (.int y2), .val (.int z1), .val (.int z2), .val (.ref oa), .val (.ref ob), .val (.ref oc), .val (.ref oa), .val (.ref oa), .val (.int tt), .val (.long (((((v0 + v1) + v2) + v3) + v4) + v5)), .second, .val (.long (((((s0 + s1) + s2) + s3) + s4) + s5)), .second, .unset, .unset, .unset, .unset, .unset]) rfl ?_
    exact Steps.refl _
  exact ⟨T430, _, s0, s1, s2, s3, s4, s5, X430, e430, N430, ts0, ts1, ts2, ts3, ts4, ts5, r432⟩
theorem pn_0 : plainName "org/rowfold/aggregate/MomentsCombinePinLaw" = true := by first | (simp [plainName, overriddenIn]; done) | decide +kernel
theorem ef_0 (m : MethodId) (x0 : Int32) (x1 : Int64) (x2 : Int64) (x3 : Int64) : entryFrame m #[(.int x0), (.long x1), (.long x2), (.long x3)] maxLocals = mkF m 0 #[.val (.int x0), .val (.long x1), .second, .val (.long x2), .second, .val (.long x3), .second, .unset, .unset, .unset, .unset, .unset, .unset, .unset, .unset, .unset, .unset, .unset, .unset, .unset, .unset, .unset, .unset, .unset, .unset, .unset, .unset, .unset, .unset, .unset, .unset, .unset, .unset, .unset, .unset] [] := by first | (simp [entryFrame, mkF, argsToLocals, Value.category, maxLocals]; done) | rfl
def Qm0 (Z : State) (p1 : Int32) (p2 : Int64) (p3 : Int64) (p4 : Int64) (w : Addr) (h0 : Heap) (n0 : Nat) (v : Option Value) (h : Heap) (L : List Loc) : Prop := v = some (.int 1) ∧ Fr n0 L
set_option maxRecDepth 65536 in
set_option maxHeartbeats 40000000 in
theorem rm0 (l : Launch) (Z : State) (a0 : Array Value) (hw : ∀ d ∈ tables_1, d.before a0 Z = true) (ws : List Jvm.Cond) (p1 : Int32) (p2 : Int64) (p3 : Int64) (p4 : Int64) (w : Addr) (h0 : Heap) (n0 : Nat) (Z0 : n0 ≤ h0.size) (O0 : Old Z n0 h0) (Sw : Sta Z Z.heap "java/util/OptionalDouble" "EMPTY" "Ljava/util/OptionalDouble;" (.ref w)) (Ew : Exa Z Z.heap w "java/util/OptionalDouble") (Fw : Fld Z Z.heap w "java/util/OptionalDouble" "isPresent" "Z" (.int (0 : Int32))) :
    MetFree l x (head1 (Jvm.Cond.code x code maxLocals ret :: ws) room_1) (fun a U => a = #[(.int p1), (.long p2), (.long p3), (.long p4)] ∧ Z.Warmed39 U.vm ∧ U.heap = h0) (fun _ _ _ _ _ => True) (fun _ U o U' => ∃ v L, o = .returned v ∧ Qm0 Z p1 p2 p3 p4 w h0 n0 v U'.heap L ∧ FrameEnd U o U' L room_1.cells room_1.slots) := by
  refine MetFree.of_bodySF (plainFor_of_name pn_0) hisR ?_
  intro p e s m args below meth c s₁ Bd hml0 hP hK
  obtain ⟨rfl, hZ, hh⟩ := hP
  have hx := Bd.exec
  have hby := Bd.bytes
  have hml : c.maxLocals = 35 := hml0
  have hown : s.vm.findClass "org/rowfold/aggregate/MomentsCombinePinLaw" = some m.cls := findClass_of_methodNamed Bd.named
  have hnm := (name_of_methodNamed Bd.named Bd.method).1
  have X0 : Stand p l e room_1 s m #[(.int p1), (.long p2), (.long p3), (.long p4)] below meth c s₁ [] 0 0 := Stand.of_body Bd
  have e0 : s₁.heap = h0 := by rw [← hh, Bd.state]; rfl
  have N0 := Fr.nil n0
  have pre0 : ∀ t, Steps p.tables e below (s₁.setTop (mkF m 0 #[.val (.int p1), .val (.long p2), .second, .val (.long p3), .second, .val (.long p4), .second, .unset, .unset, .unset, .unset, .unset, .unset, .unset, .unset, .unset, .unset, .unset, .unset, .unset, .unset, .unset, .unset, .unset, .unset, .unset, .unset, .unset, .unset, .unset, .unset, .unset, .unset, .unset, .unset] [])) t → Steps p.tables e below (s₁.setTop (entryFrame m #[(.int p1), (.long p2), (.long p3), (.long p4)] maxLocals)) t := fun t_ k_ => castTop (ef_0 m p1 p2 p3 p4) k_
  obtain ⟨S0, hS0⟩ : ∃ z, z = s₁.setTop (mkF m 0 #[.val (.int p1), .val (.long p2), .second, .val (.long p3), .second, .val (.long p4), .second, .unset, .unset, .unset, .unset, .unset, .unset, .unset, .unset, .unset, .unset, .unset, .unset, .unset, .unset, .unset, .unset, .unset, .unset, .unset, .unset, .unset, .unset, .unset, .unset, .unset, .unset, .unset, .unset] []) := ⟨_, rfl⟩
  have r0 : Steps p.tables e below S0 (s₁.setTop (mkF m 0 #[.val (.int p1), .val (.long p2), .second, .val (.long p3), .second, .val (.long p4), .second, .unset, .unset, .unset, .unset, .unset, .unset, .unset, .unset, .unset, .unset, .unset, .unset, .unset, .unset, .unset, .unset, .unset, .unset, .unset, .unset, .unset, .unset, .unset, .unset, .unset, .unset, .unset, .unset] [])) := by rw [hS0]; exact Steps.refl _
  obtain ⟨TA, hA, LA, b1, b2, sl, mm, kk, nm, qq, XA, eA, NA, OA, ZA, hcs, hqq, rA⟩ := sgA l Z a0 hw p1 p2 p3 p4 hx hby hml hown hZ  S0 _ _ _ n0 X0 e0 N0 O0 Z0  r0
  obtain ⟨TS, LS, x1, x2, y1, y2, z1, z2, XS_, eS, NS_, bx1, bx2, by1, by2, bz1, bz2, rS⟩ := sgS l Z a0 hw p1 p2 p3 p4 hx hby hml hown hZ b1 b2 sl mm kk nm qq S0 _ _ _ n0 XA eA NA OA ZA  rA
  obtain ⟨TN, hN, LN, oa, ob, oc, XN, eN, NN, ON, ZN, g_oa, g_ob, g_oc, ne_ab, ne_ac, ne_bc, E_oa, E_ob, E_oc, F_oa_count, F_oa_mean, F_oa_squares, F_ob_count, F_ob_mean, F_ob_squares, F_oc_count, F_oc_mean, F_oc_squares, rN⟩ := sgN l Z a0 hw p1 p2 p3 p4 hx hby hml hown hZ b1 b2 sl mm kk nm qq x1 x2 y1 y2 z1 z2 S0 _ _ _ n0 XS_ eS NS_ OA ZA  rS
  obtain ⟨B0, hB0⟩ : ∃ z : Int, z = (if mm < (1 : Int32) then 0 else x1.toInt) := ⟨_, rfl⟩
  obtain ⟨B1, hB1⟩ : ∃ z : Int, z = (if mm < (2 : Int32) then 0 else x2.toInt) := ⟨_, rfl⟩
  obtain ⟨B2, hB2⟩ : ∃ z : Int, z = (if kk < (1 : Int32) then 0 else y1.toInt) := ⟨_, rfl⟩
  obtain ⟨B3, hB3⟩ : ∃ z : Int, z = (if kk < (2 : Int32) then 0 else y2.toInt) := ⟨_, rfl⟩
  obtain ⟨B4, hB4⟩ : ∃ z : Int, z = (if qq < (1 : Int32) then 0 else z1.toInt) := ⟨_, rfl⟩
  obtain ⟨B5, hB5⟩ : ∃ z : Int, z = (if qq < (2 : Int32) then 0 else z2.toInt) := ⟨_, rfl⟩
  obtain ⟨SX, hSX⟩ : ∃ z : Int, z = B0 + B1 + B2 + B3 + B4 + B5 := ⟨_, rfl⟩
  obtain ⟨SQ, hSQ⟩ : ∃ z : Int, z = B0 * B0 + B1 * B1 + B2 * B2 + B3 * B3 + B4 * B4 + B5 * B5 := ⟨_, rfl⟩
  obtain ⟨TM, hM, LM, cn, sq, XM, eM, NM, OM, ZM, EM, FcM, FsM, hres, rM⟩ : ∃ (T' : State) (h' : Heap) (L' : List Loc) (cn : Int64) (sq : UInt64), Stand p l e room_1 s m #[(.int p1), (.long p2), (.long p3), (.long p4)] below meth c T' L' 5 23 ∧ T'.heap = h' ∧ Fr n0 L' ∧ Old Z n0 h' ∧ n0 ≤ h'.size ∧ Exa Z h' oa "org/rowfold/aggregate/Moments" ∧ Fld Z h' oa "org/rowfold/aggregate/Moments" "count" "J" (.long cn) ∧ Fld Z h' oa "org/rowfold/aggregate/Moments" "squares" "D" (.double sq) ∧ ((cn.toInt = 0 ∧ nm + qq = 0) ∨ (cn.toInt = 2 ∧ nm + qq = 2 ∧ Dy (2 * SQ - SX * SX) 1 sq) ∨ (cn.toInt = 4 ∧ nm + qq = 4 ∧ Dy (4 * SQ - SX * SX) 2 sq)) ∧ Steps p.tables e below S0 (T'.setTop (mkF m 320 #[.val (.int p1), .val (.long p2), .second, .val (.long p3), .second, .val (.long p4), .second, .val (.int sl), .val (.ref b1), .val (.ref b2), .val (.int mm), .val (.int kk), .val (.int nm), .val (.int qq), .val (.int x1), .val (.int x2), .val (.int y1), .val (.int y2), .val (.int z1), .val (.int z2), .val (.ref oa), .val (.ref ob), .val (.ref oc), .val (.ref oa), .val (.ref oa), .unset, .unset, .unset, .unset, .unset, .unset, .unset, .unset, .unset, .unset] [])) := by
    rcases hcs with ⟨hm, hk, hn⟩ | ⟨hm, hk, hn⟩ | ⟨hm, hk, hn⟩ | ⟨hm, hk, hn⟩ | ⟨hm, hk, hn⟩ | ⟨hm, hk, hn⟩ | ⟨hm, hk, hn⟩
    · exact sgB0 l Z a0 hw p1 p2 p3 p4 hx hby hml hown hZ b1 b2 sl mm kk nm qq x1 x2 y1 y2 z1 z2 oa ob oc B0 B1 B2 B3 B4 B5 SX SQ S0 _ _ _ n0 XN eN NN ON ZN bx1 bx2 by1 by2 bz1 bz2 g_oa g_ob g_oc ne_ab ne_ac ne_bc E_oa E_ob E_oc F_oa_count F_oa_mean F_oa_squares F_ob_count F_ob_mean F_ob_squares F_oc_count F_oc_mean F_oc_squares hB0 hB1 hB2 hB3 hB4 hB5 hSX hSQ hm hk hn hqq rN
    · exact sgB1 l Z a0 hw p1 p2 p3 p4 hx hby hml hown hZ b1 b2 sl mm kk nm qq x1 x2 y1 y2 z1 z2 oa ob oc B0 B1 B2 B3 B4 B5 SX SQ S0 _ _ _ n0 XN eN NN ON ZN bx1 bx2 by1 by2 bz1 bz2 g_oa g_ob g_oc ne_ab ne_ac ne_bc E_oa E_ob E_oc F_oa_count F_oa_mean F_oa_squares F_ob_count F_ob_mean F_ob_squares F_oc_count F_oc_mean F_oc_squares hB0 hB1 hB2 hB3 hB4 hB5 hSX hSQ hm hk hn hqq rN
    · exact sgB2 l Z a0 hw p1 p2 p3 p4 hx hby hml hown hZ b1 b2 sl mm kk nm qq x1 x2 y1 y2 z1 z2 oa ob oc B0 B1 B2 B3 B4 B5 SX SQ S0 _ _ _ n0 XN eN NN ON ZN bx1 bx2 by1 by2 bz1 bz2 g_oa g_ob g_oc ne_ab ne_ac ne_bc E_oa E_ob E_oc F_oa_count F_oa_mean F_oa_squares F_ob_count F_ob_mean F_ob_squares F_oc_count F_oc_mean F_oc_squares hB0 hB1 hB2 hB3 hB4 hB5 hSX hSQ hm hk hn hqq rN
    · exact sgB3 l Z a0 hw p1 p2 p3 p4 hx hby hml hown hZ b1 b2 sl mm kk nm qq x1 x2 y1 y2 z1 z2 oa ob oc B0 B1 B2 B3 B4 B5 SX SQ S0 _ _ _ n0 XN eN NN ON ZN bx1 bx2 by1 by2 bz1 bz2 g_oa g_ob g_oc ne_ab ne_ac ne_bc E_oa E_ob E_oc F_oa_count F_oa_mean F_oa_squares F_ob_count F_ob_mean F_ob_squares F_oc_count F_oc_mean F_oc_squares hB0 hB1 hB2 hB3 hB4 hB5 hSX hSQ hm hk hn hqq rN
    · exact sgB4 l Z a0 hw p1 p2 p3 p4 hx hby hml hown hZ b1 b2 sl mm kk nm qq x1 x2 y1 y2 z1 z2 oa ob oc B0 B1 B2 B3 B4 B5 SX SQ S0 _ _ _ n0 XN eN NN ON ZN bx1 bx2 by1 by2 bz1 bz2 g_oa g_ob g_oc ne_ab ne_ac ne_bc E_oa E_ob E_oc F_oa_count F_oa_mean F_oa_squares F_ob_count F_ob_mean F_ob_squares F_oc_count F_oc_mean F_oc_squares hB0 hB1 hB2 hB3 hB4 hB5 hSX hSQ hm hk hn hqq rN
    · exact sgB5 l Z a0 hw p1 p2 p3 p4 hx hby hml hown hZ b1 b2 sl mm kk nm qq x1 x2 y1 y2 z1 z2 oa ob oc B0 B1 B2 B3 B4 B5 SX SQ S0 _ _ _ n0 XN eN NN ON ZN bx1 bx2 by1 by2 bz1 bz2 g_oa g_ob g_oc ne_ab ne_ac ne_bc E_oa E_ob E_oc F_oa_count F_oa_mean F_oa_squares F_ob_count F_ob_mean F_ob_squares F_oc_count F_oc_mean F_oc_squares hB0 hB1 hB2 hB3 hB4 hB5 hSX hSQ hm hk hn hqq rN
    · exact sgB6 l Z a0 hw p1 p2 p3 p4 hx hby hml hown hZ b1 b2 sl mm kk nm qq x1 x2 y1 y2 z1 z2 oa ob oc B0 B1 B2 B3 B4 B5 SX SQ S0 _ _ _ n0 XN eN NN ON ZN bx1 bx2 by1 by2 bz1 bz2 g_oa g_ob g_oc ne_ab ne_ac ne_bc E_oa E_ob E_oc F_oa_count F_oa_mean F_oa_squares F_ob_count F_ob_mean F_ob_squares F_oc_count F_oc_mean F_oc_squares hB0 hB1 hB2 hB3 hB4 hB5 hSX hSQ hm hk hn hqq rN
  have r433 : Steps p.tables e below S0 (TM.setTop (mkF m 327 #[.val (.int p1), .val (.long p2), .second, .val (.long p3), .second, .val (.long p4), .second, .val (.int sl), .val (.ref b1), .val (.ref b2), .val (.int mm), .val (.int kk), .val (.int nm), .val (.int qq), .val (.int x1), .val (.int x2), .val (.int y1), .val (.int y2), .val (.int z1), .val (.int z2), .val (.ref oa), .val (.ref ob), .val (.ref oc), .val (.ref oa), .val (.ref oa), .val (.int (nm + qq)), .unset, .unset, .unset, .unset, .unset, .unset, .unset, .unset, .unset] [])) := by
    refine rM.trans ?_
    show Steps p.tables e below (TM.setTop (mkF m 320 #[.val (.int p1), .val (.long p2), .second, .val (.long p3), .second, .val (.long p4), .second, .val (.int sl), .val (.ref b1), .val (.ref b2), .val (.int mm), .val (.int kk), .val (.int nm), .val (.int qq), .val (.int x1), .val (.int x2), .val (.int y1), .val (.int y2), .val (.int z1), .val (.int z2), .val (.ref oa), .val (.ref ob), .val (.ref oc), .val (.ref oa), .val (.ref oa), .unset, .unset, .unset, .unset, .unset, .unset, .unset, .unset, .unset, .unset] [])) _
    refine XS.iload XM.here hx rfl (hb hby at_320) rfl ?_
    show Steps p.tables e below (TM.setTop (mkF m 322 #[.val (.int p1), .val (.long p2), .second, .val (.long p3), .second, .val (.long p4), .second, .val (.int sl), .val (.ref b1), .val (.ref b2), .val (.int mm), .val (.int kk), .val (.int nm), .val (.int qq), .val (.int x1), .val (.int x2), .val (.int y1), .val (.int y2), .val (.int z1), .val (.int z2), .val (.ref oa), .val (.ref ob), .val (.ref oc), .val (.ref oa), .val (.ref oa), .unset, .unset, .unset, .unset, .unset, .unset, .unset, .unset, .unset, .unset] [(.int nm)])) _
    refine XS.iload XM.here hx rfl (hb hby at_322) rfl ?_
    show Steps p.tables e below (TM.setTop (mkF m 324 #[.val (.int p1), .val (.long p2), .second, .val (.long p3), .second, .val (.long p4), .second, .val (.int sl), .val (.ref b1), .val (.ref b2), .val (.int mm), .val (.int kk), .val (.int nm), .val (.int qq), .val (.int x1), .val (.int x2), .val (.int y1), .val (.int y2), .val (.int z1), .val (.int z2), .val (.ref oa), .val (.ref ob), .val (.ref oc), .val (.ref oa), .val (.ref oa), .unset, .unset, .unset, .unset, .unset, .unset, .unset, .unset, .unset, .unset] [(.int qq), (.int nm)])) _
    refine XS.iadd XM.here hx rfl (hb hby at_324) rfl ?_
    show Steps p.tables e below (TM.setTop (mkF m 325 #[.val (.int p1), .val (.long p2), .second, .val (.long p3), .second, .val (.long p4), .second, .val (.int sl), .val (.ref b1), .val (.ref b2), .val (.int mm), .val (.int kk), .val (.int nm), .val (.int qq), .val (.int x1), .val (.int x2), .val (.int y1), .val (.int y2), .val (.int z1), .val (.int z2), .val (.ref oa), .val (.ref ob), .val (.ref oc), .val (.ref oa), .val (.ref oa), .unset, .unset, .unset, .unset, .unset, .unset, .unset, .unset, .unset, .unset] [(.int (nm + qq))])) _
    refine XS.istore XM.here hx rfl (hb hby at_325) rfl (l' := #[.val (.int p1), .val (.long p2), .second, .val (.long p3), .second, .val (.long p4), .second, .val (.int sl), .val (.ref b1), .val (.ref b2), .val (.int mm), .val (.int kk), .val (.int nm), .val (.int qq), .val (.int x1), .val (.int x2), .val (.int y1), .val (.int y2), .val (.int z1), .val (.int z2), .val (.ref oa), .val (.ref ob), .val (.ref oc), .val (.ref oa), .val (.ref oa), .val (.int (nm + qq)), .unset, .unset, .unset, .unset, .unset, .unset, .unset, .unset, .unset]) rfl ?_
    exact Steps.refl _
  obtain ⟨tt, htt⟩ : ∃ z, z = (nm + qq) := ⟨_, rfl⟩
  have r434 : Steps p.tables e below S0 (TM.setTop (mkF m 327 #[.val (.int p1), .val (.long p2), .second, .val (.long p3), .second, .val (.long p4), .second, .val (.int sl), .val (.ref b1), .val (.ref b2), .val (.int mm), .val (.int kk), .val (.int nm), .val (.int qq), .val (.int x1), .val (.int x2), .val (.int y1), .val (.int y2), .val (.int z1), .val (.int z2), .val (.ref oa), .val (.ref ob), .val (.ref oc), .val (.ref oa), .val (.ref oa), .val (.int tt), .unset, .unset, .unset, .unset, .unset, .unset, .unset, .unset, .unset] [])) := by rw [htt]; exact r433
  obtain ⟨TV, LV_, v0, v1, v2, v3, v4, v5, XV, eV, NV, tv0, tv1, tv2, tv3, tv4, tv5, rV⟩ := sgV l Z a0 hw p1 p2 p3 p4 hx hby hml hown hZ b1 b2 sl mm kk nm qq x1 x2 y1 y2 z1 z2 oa ob oc tt B0 B1 B2 B3 B4 B5 S0 _ _ _ n0 XM eM NM OM ZM bx1 bx2 by1 by2 bz1 bz2 hB0 hB1 hB2 hB3 hB4 hB5 r434
  obtain ⟨TQ, LQ, s0, s1, s2, s3, s4, s5, XQ, eQ, NQ, ts0, ts1, ts2, ts3, ts4, ts5, rW⟩ := sgQ l Z a0 hw p1 p2 p3 p4 hx hby hml hown hZ b1 b2 sl mm kk nm qq x1 x2 y1 y2 z1 z2 oa ob oc tt B0 B1 B2 B3 B4 B5 v0 v1 v2 v3 v4 v5 S0 _ _ _ n0 XV eV NV OM ZM bx1 bx2 by1 by2 bz1 bz2 hB0 hB1 hB2 hB3 hB4 hB5 rV
  have bB0 : B0.natAbs ≤ 1048576 := by rw [hB0]; exact nbif bx1
  have bB1 : B1.natAbs ≤ 1048576 := by rw [hB1]; exact nbif bx2
  have bB2 : B2.natAbs ≤ 1048576 := by rw [hB2]; exact nbif by1
  have bB3 : B3.natAbs ≤ 1048576 := by rw [hB3]; exact nbif by2
  have bB4 : B4.natAbs ≤ 1048576 := by rw [hB4]; exact nbif bz1
  have bB5 : B5.natAbs ≤ 1048576 := by rw [hB5]; exact nbif bz2
  have hsx := own_sum (by rw [tv0]; exact nb5 bB0) (by rw [tv1]; exact nb5 bB1) (by rw [tv2]; exact nb5 bB2) (by rw [tv3]; exact nb5 bB3) (by rw [tv4]; exact nb5 bB4) (by rw [tv5]; exact nb5 bB5) (v0 := v0) (v1 := v1) (v2 := v2) (v3 := v3) (v4 := v4) (v5 := v5)
  rw [tv0, tv1, tv2, tv3, tv4, tv5, ← hSX] at hsx
  have cB0 := sq20 bB0
  have cB1 := sq20 bB1
  have cB2 := sq20 bB2
  have cB3 := sq20 bB3
  have cB4 := sq20 bB4
  have cB5 := sq20 bB5
  have hsq := own_sum (by rw [ts0]; exact cB0) (by rw [ts1]; exact cB1) (by rw [ts2]; exact cB2) (by rw [ts3]; exact cB3) (by rw [ts4]; exact cB4) (by rw [ts5]; exact cB5) (v0 := s0) (v1 := s1) (v2 := s2) (v3 := s3) (v4 := s4) (v5 := s5)
  rw [ts0, ts1, ts2, ts3, ts4, ts5, ← hSQ] at hsq
  have bSX : SX.natAbs ≤ 8388608 := by rw [hSX]; exact nb6 bB0 bB1 bB2 bB3 bB4 bB5
  have bSQ : SQ.natAbs ≤ 8796093022208 := by rw [hSQ]; exact nb7 cB0 cB1 cB2 cB3 cB4 cB5
  have bXX_ : (SX * SX).natAbs ≤ 70368744177664 := by rw [Int.natAbs_mul]; exact Nat.mul_le_mul bSX bSX
  have bW2 : ((2 * SQ - SX * SX)).natAbs ≤ 2 ^ 53 := nb8 bSQ bXX_
  have bW4 : ((4 * SQ - SX * SX)).natAbs ≤ 2 ^ 53 := nb9 bSQ bXX_
  have bXX : (SX * SX).natAbs ≤ 70368744177664 := by rw [Int.natAbs_mul]; exact Nat.mul_le_mul bSX bSX
  have r435 : Steps p.tables e below S0 (TQ.setTop (mkF m 536 #[.val (.int p1), .val (.long p2), .second, .val (.long p3), .second, .val (.long p4), .second, .val (.int sl), .val (.ref b1), .val (.ref b2), .val (.int mm), .val (.int kk), .val (.int nm), .val (.int qq), .val (.int x1), .val (.int x2), .val (.int y1), .val (.int y2), .val (.int z1), .val (.int z2), .val (.ref oa), .val (.ref ob), .val (.ref oc), .val (.ref oa), .val (.ref oa), .val (.int tt), .val (.long (((((v0 + v1) + v2) + v3) + v4) + v5)), .second, .val (.long (((((s0 + s1) + s2) + s3) + s4) + s5)), .second, .unset, .unset, .unset, .unset, .unset] [(.int (0 : Int32)), (.ref oa)])) := by
    refine rW.trans ?_
    show Steps p.tables e below (TQ.setTop (mkF m 533 #[.val (.int p1), .val (.long p2), .second, .val (.long p3), .second, .val (.long p4), .second, .val (.int sl), .val (.ref b1), .val (.ref b2), .val (.int mm), .val (.int kk), .val (.int nm), .val (.int qq), .val (.int x1), .val (.int x2), .val (.int y1), .val (.int y2), .val (.int z1), .val (.int z2), .val (.ref oa), .val (.ref ob), .val (.ref oc), .val (.ref oa), .val (.ref oa), .val (.int tt), .val (.long (((((v0 + v1) + v2) + v3) + v4) + v5)), .second, .val (.long (((((s0 + s1) + s2) + s3) + s4) + s5)), .second, .unset, .unset, .unset, .unset, .unset] [])) _
    refine XS.aload XQ.here hx rfl (hb hby at_533) rfl rfl ?_
    show Steps p.tables e below (TQ.setTop (mkF m 535 #[.val (.int p1), .val (.long p2), .second, .val (.long p3), .second, .val (.long p4), .second, .val (.int sl), .val (.ref b1), .val (.ref b2), .val (.int mm), .val (.int kk), .val (.int nm), .val (.int qq), .val (.int x1), .val (.int x2), .val (.int y1), .val (.int y2), .val (.int z1), .val (.int z2), .val (.ref oa), .val (.ref ob), .val (.ref oc), .val (.ref oa), .val (.ref oa), .val (.int tt), .val (.long (((((v0 + v1) + v2) + v3) + v4) + v5)), .second, .val (.long (((((s0 + s1) + s2) + s3) + s4) + s5)), .second, .unset, .unset, .unset, .unset, .unset] [(.ref oa)])) _
    refine XS.iconst XQ.here hx rfl (hb hby at_535) ?_
    exact Steps.refl _
  rcases hres with ⟨hc, ht⟩ | ⟨hc, ht, yW⟩ | ⟨hc, ht, yW⟩
  · skip
    rw [← htt] at ht
    have hz : cn = 0 := Int64.toInt_inj.mp hc
    obtain ⟨cq436, kq436, q436a, q436b, q436c⟩ := isOf hZ eQ EM
    obtain ⟨_, _, ⟨T436, L436, k436, n436⟩, -, X436, ⟨Lc436, hQ436, l436, y436, z436⟩, st436⟩ := XQ.virtualBack hx (y := (⟨"org/rowfold/aggregate/Moments", "variance", "(Z)Ljava/util/OptionalDouble;"⟩ : MethodName)) (z := (⟨"org/rowfold/aggregate/Moments", "variance", "(Z)Ljava/util/OptionalDouble;"⟩ : MethodName)) hown (mvT hZ (hw _ (List.mem_of_getElem? (i := 28) rfl))) (mvT hZ (hw _ (List.mem_of_getElem? (i := 29) rfl))) (notFace_of_selects (args := #[]) (mvT hZ (hw _ (List.mem_of_getElem? (i := 31) rfl)))) (mvT hZ (hw _ (List.mem_of_getElem? (i := 31) rfl))) (mvT hZ (hw _ (List.mem_of_getElem? (i := 30) rfl))) (by decide) (backOf (W := 0) (rmV0e l Z a0 hw [] oa (0 : Int32) cn w hM n0 ZM rfl FcM (Sw.ext OM.2) (by rw [hz]; decide)) hZ (hw _ (List.mem_of_getElem? (i := 32) rfl)) (hw _ (List.mem_of_getElem? (i := 8) rfl)) (by decide) (by decide)) q436a q436c (g := (mkF m 536 #[.val (.int p1), .val (.long p2), .second, .val (.long p3), .second, .val (.long p4), .second, .val (.int sl), .val (.ref b1), .val (.ref b2), .val (.int mm), .val (.int kk), .val (.int nm), .val (.int qq), .val (.int x1), .val (.int x2), .val (.int y1), .val (.int y2), .val (.int z1), .val (.int z2), .val (.ref oa), .val (.ref ob), .val (.ref oc), .val (.ref oa), .val (.ref oa), .val (.int tt), .val (.long (((((v0 + v1) + v2) + v3) + v4) + v5)), .second, .val (.long (((((s0 + s1) + s2) + s3) + s4) + s5)), .second, .unset, .unset, .unset, .unset, .unset] [(.int (0 : Int32)), (.ref oa)])) rfl (by rw [hml]; rfl) (Steps.refl _) (argsL := [(.int (0 : Int32))]) (rest := []) (lenOf pd_7 rfl) rfl (by show 2 * 0 + _ ≤ _; exact Nat.le_of_eq rfl) (hb hby at_536) (fun _ _ => ⟨rfl, eQ, (by decide : 5 + 0 ≤ _), (by decide : 23 + 0 ≤ _)⟩)
    dsimp only [Pt.U, Pt.locs, Pt.cells, Pt.slots] at X436 l436 y436 z436 st436 hQ436
    subst l436 y436 z436
    obtain ⟨rfl, Nq436, e436⟩ := hQ436
    have N436 := Fr.app NQ Nq436
    have r437 : Steps p.tables e below S0 (T436.setTop (mkF m 539 #[.val (.int p1), .val (.long p2), .second, .val (.long p3), .second, .val (.long p4), .second, .val (.int sl), .val (.ref b1), .val (.ref b2), .val (.int mm), .val (.int kk), .val (.int nm), .val (.int qq), .val (.int x1), .val (.int x2), .val (.int y1), .val (.int y2), .val (.int z1), .val (.int z2), .val (.ref oa), .val (.ref ob), .val (.ref oc), .val (.ref oa), .val (.ref oa), .val (.int tt), .val (.long (((((v0 + v1) + v2) + v3) + v4) + v5)), .second, .val (.long (((((s0 + s1) + s2) + s3) + s4) + s5)), .second, .unset, .unset, .unset, .unset, .unset] [(.ref w)])) := r435.trans st436
    have r438 : Steps p.tables e below S0 (T436.setTop (mkF m 548 #[.val (.int p1), .val (.long p2), .second, .val (.long p3), .second, .val (.long p4), .second, .val (.int sl), .val (.ref b1), .val (.ref b2), .val (.int mm), .val (.int kk), .val (.int nm), .val (.int qq), .val (.int x1), .val (.int x2), .val (.int y1), .val (.int y2), .val (.int z1), .val (.int z2), .val (.ref oa), .val (.ref ob), .val (.ref oc), .val (.ref oa), .val (.ref oa), .val (.int tt), .val (.long (((((v0 + v1) + v2) + v3) + v4) + v5)), .second, .val (.long (((((s0 + s1) + s2) + s3) + s4) + s5)), .second, .val (.ref w), .unset, .unset, .unset, .unset] [(.ref w)])) := by
      refine r437.trans ?_
      show Steps p.tables e below (T436.setTop (mkF m 539 #[.val (.int p1), .val (.long p2), .second, .val (.long p3), .second, .val (.long p4), .second, .val (.int sl), .val (.ref b1), .val (.ref b2), .val (.int mm), .val (.int kk), .val (.int nm), .val (.int qq), .val (.int x1), .val (.int x2), .val (.int y1), .val (.int y2), .val (.int z1), .val (.int z2), .val (.ref oa), .val (.ref ob), .val (.ref oc), .val (.ref oa), .val (.ref oa), .val (.int tt), .val (.long (((((v0 + v1) + v2) + v3) + v4) + v5)), .second, .val (.long (((((s0 + s1) + s2) + s3) + s4) + s5)), .second, .unset, .unset, .unset, .unset, .unset] [(.ref w)])) _
      refine XS.astore X436.here hx rfl (hb hby at_539) rfl rfl (l' := #[.val (.int p1), .val (.long p2), .second, .val (.long p3), .second, .val (.long p4), .second, .val (.int sl), .val (.ref b1), .val (.ref b2), .val (.int mm), .val (.int kk), .val (.int nm), .val (.int qq), .val (.int x1), .val (.int x2), .val (.int y1), .val (.int y2), .val (.int z1), .val (.int z2), .val (.ref oa), .val (.ref ob), .val (.ref oc), .val (.ref oa), .val (.ref oa), .val (.int tt), .val (.long (((((v0 + v1) + v2) + v3) + v4) + v5)), .second, .val (.long (((((s0 + s1) + s2) + s3) + s4) + s5)), .second, .val (.ref w), .unset, .unset, .unset, .unset]) rfl ?_
      show Steps p.tables e below (T436.setTop (mkF m 541 #[.val (.int p1), .val (.long p2), .second, .val (.long p3), .second, .val (.long p4), .second, .val (.int sl), .val (.ref b1), .val (.ref b2), .val (.int mm), .val (.int kk), .val (.int nm), .val (.int qq), .val (.int x1), .val (.int x2), .val (.int y1), .val (.int y2), .val (.int z1), .val (.int z2), .val (.ref oa), .val (.ref ob), .val (.ref oc), .val (.ref oa), .val (.ref oa), .val (.int tt), .val (.long (((((v0 + v1) + v2) + v3) + v4) + v5)), .second, .val (.long (((((s0 + s1) + s2) + s3) + s4) + s5)), .second, .val (.ref w), .unset, .unset, .unset, .unset] [])) _
      refine XS.iload X436.here hx rfl (hb hby at_541) rfl ?_
      show Steps p.tables e below (T436.setTop (mkF m 543 #[.val (.int p1), .val (.long p2), .second, .val (.long p3), .second, .val (.long p4), .second, .val (.int sl), .val (.ref b1), .val (.ref b2), .val (.int mm), .val (.int kk), .val (.int nm), .val (.int qq), .val (.int x1), .val (.int x2), .val (.int y1), .val (.int y2), .val (.int z1), .val (.int z2), .val (.ref oa), .val (.ref ob), .val (.ref oc), .val (.ref oa), .val (.ref oa), .val (.int tt), .val (.long (((((v0 + v1) + v2) + v3) + v4) + v5)), .second, .val (.long (((((s0 + s1) + s2) + s3) + s4) + s5)), .second, .val (.ref w), .unset, .unset, .unset, .unset] [(.int tt)])) _
      refine XS.ifNo X436.here hx rfl (hb hby at_543) rfl ((if0 _ _).trans (teq ht).2) ?_
      show Steps p.tables e below (T436.setTop (mkF m 546 #[.val (.int p1), .val (.long p2), .second, .val (.long p3), .second, .val (.long p4), .second, .val (.int sl), .val (.ref b1), .val (.ref b2), .val (.int mm), .val (.int kk), .val (.int nm), .val (.int qq), .val (.int x1), .val (.int x2), .val (.int y1), .val (.int y2), .val (.int z1), .val (.int z2), .val (.ref oa), .val (.ref ob), .val (.ref oc), .val (.ref oa), .val (.ref oa), .val (.int tt), .val (.long (((((v0 + v1) + v2) + v3) + v4) + v5)), .second, .val (.long (((((s0 + s1) + s2) + s3) + s4) + s5)), .second, .val (.ref w), .unset, .unset, .unset, .unset] [])) _
      refine XS.aload X436.here hx rfl (hb hby at_546) rfl rfl ?_
      exact Steps.refl _
    obtain ⟨cq439, kq439, q439a, q439b, q439c⟩ := isOf hZ e436 (Ew.ext OM.2)
    obtain ⟨_, _, ⟨T439, L439, k439, n439⟩, -, X439, ⟨Lc439, hQ439, l439, y439, z439⟩, st439⟩ := X436.virtualBack hx (y := (⟨"java/util/OptionalDouble", "isPresent", "()Z"⟩ : MethodName)) (z := (⟨"java/util/OptionalDouble", "isPresent", "()Z"⟩ : MethodName)) hown (mvT hZ (hw _ (List.mem_of_getElem? (i := 38) rfl))) (mvT hZ (hw _ (List.mem_of_getElem? (i := 39) rfl))) (notFace_of_selects (args := #[]) (mvT hZ (hw _ (List.mem_of_getElem? (i := 41) rfl)))) (mvT hZ (hw _ (List.mem_of_getElem? (i := 41) rfl))) (mvT hZ (hw _ (List.mem_of_getElem? (i := 40) rfl))) (by decide) (backOf (W := 0) (rmP l Z a0 hw [] w (0 : Int32) hM n0 ZM (Fw.ext OM.2) (by decide)) hZ (hw _ (List.mem_of_getElem? (i := 42) rfl)) (hw _ (List.mem_of_getElem? (i := 35) rfl)) (by decide) (by decide)) q439a q439c (g := (mkF m 548 #[.val (.int p1), .val (.long p2), .second, .val (.long p3), .second, .val (.long p4), .second, .val (.int sl), .val (.ref b1), .val (.ref b2), .val (.int mm), .val (.int kk), .val (.int nm), .val (.int qq), .val (.int x1), .val (.int x2), .val (.int y1), .val (.int y2), .val (.int z1), .val (.int z2), .val (.ref oa), .val (.ref ob), .val (.ref oc), .val (.ref oa), .val (.ref oa), .val (.int tt), .val (.long (((((v0 + v1) + v2) + v3) + v4) + v5)), .second, .val (.long (((((s0 + s1) + s2) + s3) + s4) + s5)), .second, .val (.ref w), .unset, .unset, .unset, .unset] [(.ref w)])) rfl (by rw [hml]; rfl) (Steps.refl _) (argsL := []) (rest := []) (lenOf pd_8 rfl) rfl (by show 2 * 0 + _ ≤ _; exact Nat.le_of_eq rfl) (hb hby at_548) (fun _ _ => ⟨rfl, e436, (by decide : (5 + 0) + 0 ≤ _), (by decide : (23 + 0) + 0 ≤ _)⟩)
    dsimp only [Pt.U, Pt.locs, Pt.cells, Pt.slots] at X439 l439 y439 z439 st439 hQ439
    subst l439 y439 z439
    obtain ⟨rfl, Nq439, e439⟩ := hQ439
    have N439 := Fr.app N436 Nq439
    have r440 : Steps p.tables e below S0 (T439.setTop (mkF m 551 #[.val (.int p1), .val (.long p2), .second, .val (.long p3), .second, .val (.long p4), .second, .val (.int sl), .val (.ref b1), .val (.ref b2), .val (.int mm), .val (.int kk), .val (.int nm), .val (.int qq), .val (.int x1), .val (.int x2), .val (.int y1), .val (.int y2), .val (.int z1), .val (.int z2), .val (.ref oa), .val (.ref ob), .val (.ref oc), .val (.ref oa), .val (.ref oa), .val (.int tt), .val (.long (((((v0 + v1) + v2) + v3) + v4) + v5)), .second, .val (.long (((((s0 + s1) + s2) + s3) + s4) + s5)), .second, .val (.ref w), .unset, .unset, .unset, .unset] [(.int (0 : Int32))])) := r438.trans st439
    have r441 : Steps p.tables e below S0 (T439.setTop (mkF m 559 #[.val (.int p1), .val (.long p2), .second, .val (.long p3), .second, .val (.long p4), .second, .val (.int sl), .val (.ref b1), .val (.ref b2), .val (.int mm), .val (.int kk), .val (.int nm), .val (.int qq), .val (.int x1), .val (.int x2), .val (.int y1), .val (.int y2), .val (.int z1), .val (.int z2), .val (.ref oa), .val (.ref ob), .val (.ref oc), .val (.ref oa), .val (.ref oa), .val (.int tt), .val (.long (((((v0 + v1) + v2) + v3) + v4) + v5)), .second, .val (.long (((((s0 + s1) + s2) + s3) + s4) + s5)), .second, .val (.ref w), .unset, .unset, .unset, .unset] [(.int (1 : Int32))])) := by
      refine r440.trans ?_
      show Steps p.tables e below (T439.setTop (mkF m 551 #[.val (.int p1), .val (.long p2), .second, .val (.long p3), .second, .val (.long p4), .second, .val (.int sl), .val (.ref b1), .val (.ref b2), .val (.int mm), .val (.int kk), .val (.int nm), .val (.int qq), .val (.int x1), .val (.int x2), .val (.int y1), .val (.int y2), .val (.int z1), .val (.int z2), .val (.ref oa), .val (.ref ob), .val (.ref oc), .val (.ref oa), .val (.ref oa), .val (.int tt), .val (.long (((((v0 + v1) + v2) + v3) + v4) + v5)), .second, .val (.long (((((s0 + s1) + s2) + s3) + s4) + s5)), .second, .val (.ref w), .unset, .unset, .unset, .unset] [(.int (0 : Int32))])) _
      refine XS.ifNo X439.here hx rfl (hb hby at_551) rfl ((if0 _ _).trans (teq rfl).2) ?_
      show Steps p.tables e below (T439.setTop (mkF m 554 #[.val (.int p1), .val (.long p2), .second, .val (.long p3), .second, .val (.long p4), .second, .val (.int sl), .val (.ref b1), .val (.ref b2), .val (.int mm), .val (.int kk), .val (.int nm), .val (.int qq), .val (.int x1), .val (.int x2), .val (.int y1), .val (.int y2), .val (.int z1), .val (.int z2), .val (.ref oa), .val (.ref ob), .val (.ref oc), .val (.ref oa), .val (.ref oa), .val (.int tt), .val (.long (((((v0 + v1) + v2) + v3) + v4) + v5)), .second, .val (.long (((((s0 + s1) + s2) + s3) + s4) + s5)), .second, .val (.ref w), .unset, .unset, .unset, .unset] [])) _
      refine XS.iconst X439.here hx rfl (hb hby at_554) ?_
      show Steps p.tables e below (T439.setTop (mkF m 555 #[.val (.int p1), .val (.long p2), .second, .val (.long p3), .second, .val (.long p4), .second, .val (.int sl), .val (.ref b1), .val (.ref b2), .val (.int mm), .val (.int kk), .val (.int nm), .val (.int qq), .val (.int x1), .val (.int x2), .val (.int y1), .val (.int y2), .val (.int z1), .val (.int z2), .val (.ref oa), .val (.ref ob), .val (.ref oc), .val (.ref oa), .val (.ref oa), .val (.int tt), .val (.long (((((v0 + v1) + v2) + v3) + v4) + v5)), .second, .val (.long (((((s0 + s1) + s2) + s3) + s4) + s5)), .second, .val (.ref w), .unset, .unset, .unset, .unset] [(.int (1 : Int32))])) _
      refine XS.goto X439.here hx rfl (pc0 := 555) (pc' := 559) rfl (hb hby at_555) (by decide) (by decide) ?_
      exact Steps.refl _
    obtain ⟨fs, hr, hrun, hended, hW, hsame⟩ := X439.leave (v := some (.int (1 : Int32))) (fun h => by rw [Bd.returns] at h; cases h)
    refine ⟨_, _, pre0 _ ?_, hrun, hended, _, _, rfl, ?_, ⟨_, rfl⟩, hW, hsame.mono (by decide) (by decide)⟩
    · rw [← hS0]
      refine r441.trans ?_
      show Steps p.tables e below (T439.setTop (mkF m 559 #[.val (.int p1), .val (.long p2), .second, .val (.long p3), .second, .val (.long p4), .second, .val (.int sl), .val (.ref b1), .val (.ref b2), .val (.int mm), .val (.int kk), .val (.int nm), .val (.int qq), .val (.int x1), .val (.int x2), .val (.int y1), .val (.int y2), .val (.int z1), .val (.int z2), .val (.ref oa), .val (.ref ob), .val (.ref oc), .val (.ref oa), .val (.ref oa), .val (.int tt), .val (.long (((((v0 + v1) + v2) + v3) + v4) + v5)), .second, .val (.long (((((s0 + s1) + s2) + s3) + s4) + s5)), .second, .val (.ref w), .unset, .unset, .unset, .unset] [(.int (1 : Int32))])) _
      exact retB X439 hx Bd.returns (by first | exact Or.inr rfl | exact Or.inl rfl | (split <;> simp)) (hb hby at_559) hr
    · exact ⟨rfl, N439⟩
  · skip
    rw [← htt] at ht
    have hD : ¬ cn < 1 := fun z => by have := Int64.lt_iff_toInt_lt.mp z; rw [show (1 : Int64).toInt = 1 by decide, hc] at this; exact absurd this (by decide)
    obtain ⟨dv, hdv⟩ : ∃ z, FP.ddiv sq (FP.l2d cn) = z := ⟨_, rfl⟩
    have ydv : Dy (2 * SQ - SX * SX) 2 dv := hdv ▸ (up1 yW).div (dy_l hc (by decide)) (by decide) rfl bW2 (by decide)
    obtain ⟨cq442, kq442, q442a, q442b, q442c⟩ := isOf hZ eQ EM
    obtain ⟨_, _, ⟨T442, L442, k442, n442⟩, -, X442, ⟨Lc442, hQ442, l442, y442, z442⟩, st442⟩ := XQ.virtualBack hx (y := (⟨"org/rowfold/aggregate/Moments", "variance", "(Z)Ljava/util/OptionalDouble;"⟩ : MethodName)) (z := (⟨"org/rowfold/aggregate/Moments", "variance", "(Z)Ljava/util/OptionalDouble;"⟩ : MethodName)) hown (mvT hZ (hw _ (List.mem_of_getElem? (i := 28) rfl))) (mvT hZ (hw _ (List.mem_of_getElem? (i := 29) rfl))) (notFace_of_selects (args := #[]) (mvT hZ (hw _ (List.mem_of_getElem? (i := 31) rfl)))) (mvT hZ (hw _ (List.mem_of_getElem? (i := 31) rfl))) (mvT hZ (hw _ (List.mem_of_getElem? (i := 30) rfl))) (by decide) (backOf (W := 0) (rmV0o l Z a0 hw [] oa (0 : Int32) cn sq dv hM n0 ZM rfl FcM FsM hD hdv ydv.noNaN) hZ (hw _ (List.mem_of_getElem? (i := 32) rfl)) (hw _ (List.mem_of_getElem? (i := 8) rfl)) (by decide) (by decide)) q442a q442c (g := (mkF m 536 #[.val (.int p1), .val (.long p2), .second, .val (.long p3), .second, .val (.long p4), .second, .val (.int sl), .val (.ref b1), .val (.ref b2), .val (.int mm), .val (.int kk), .val (.int nm), .val (.int qq), .val (.int x1), .val (.int x2), .val (.int y1), .val (.int y2), .val (.int z1), .val (.int z2), .val (.ref oa), .val (.ref ob), .val (.ref oc), .val (.ref oa), .val (.ref oa), .val (.int tt), .val (.long (((((v0 + v1) + v2) + v3) + v4) + v5)), .second, .val (.long (((((s0 + s1) + s2) + s3) + s4) + s5)), .second, .unset, .unset, .unset, .unset, .unset] [(.int (0 : Int32)), (.ref oa)])) rfl (by rw [hml]; rfl) (Steps.refl _) (argsL := [(.int (0 : Int32))]) (rest := []) (lenOf pd_7 rfl) rfl (by show 2 * 0 + _ ≤ _; exact Nat.le_of_eq rfl) (hb hby at_536) (fun _ _ => ⟨rfl, eQ, (by decide : 5 + 1 ≤ _), (by decide : 23 + 2 ≤ _)⟩)
    dsimp only [Pt.U, Pt.locs, Pt.cells, Pt.slots] at X442 l442 y442 z442 st442 hQ442
    subst l442 y442 z442
    obtain ⟨bo, rfl, sbo, Ebo, Fpbo, Fvbo, Kc442, Nq442⟩ := hQ442
    have N442 := Fr.app NQ Nq442
    have r443 : Steps p.tables e below S0 (T442.setTop (mkF m 539 #[.val (.int p1), .val (.long p2), .second, .val (.long p3), .second, .val (.long p4), .second, .val (.int sl), .val (.ref b1), .val (.ref b2), .val (.int mm), .val (.int kk), .val (.int nm), .val (.int qq), .val (.int x1), .val (.int x2), .val (.int y1), .val (.int y2), .val (.int z1), .val (.int z2), .val (.ref oa), .val (.ref ob), .val (.ref oc), .val (.ref oa), .val (.ref oa), .val (.int tt), .val (.long (((((v0 + v1) + v2) + v3) + v4) + v5)), .second, .val (.long (((((s0 + s1) + s2) + s3) + s4) + s5)), .second, .unset, .unset, .unset, .unset, .unset] [(.ref bo)])) := r435.trans st442
    have F442_oa_count := FcM.keep Kc442 nin0
    have F442_oa_squares := FsM.keep Kc442 nin0
    have E442_oa := EM.keep Kc442
    have Z442 : n0 ≤ T442.heap.size := Nat.le_trans ZM Kc442.1
    have O442 := OM.keep Kc442 (all0)
    have r444 : Steps p.tables e below S0 (T442.setTop (mkF m 562 #[.val (.int p1), .val (.long p2), .second, .val (.long p3), .second, .val (.long p4), .second, .val (.int sl), .val (.ref b1), .val (.ref b2), .val (.int mm), .val (.int kk), .val (.int nm), .val (.int qq), .val (.int x1), .val (.int x2), .val (.int y1), .val (.int y2), .val (.int z1), .val (.int z2), .val (.ref oa), .val (.ref ob), .val (.ref oc), .val (.ref oa), .val (.ref oa), .val (.int tt), .val (.long (((((v0 + v1) + v2) + v3) + v4) + v5)), .second, .val (.long (((((s0 + s1) + s2) + s3) + s4) + s5)), .second, .val (.ref bo), .unset, .unset, .unset, .unset] [(.ref bo)])) := by
      refine r443.trans ?_
      show Steps p.tables e below (T442.setTop (mkF m 539 #[.val (.int p1), .val (.long p2), .second, .val (.long p3), .second, .val (.long p4), .second, .val (.int sl), .val (.ref b1), .val (.ref b2), .val (.int mm), .val (.int kk), .val (.int nm), .val (.int qq), .val (.int x1), .val (.int x2), .val (.int y1), .val (.int y2), .val (.int z1), .val (.int z2), .val (.ref oa), .val (.ref ob), .val (.ref oc), .val (.ref oa), .val (.ref oa), .val (.int tt), .val (.long (((((v0 + v1) + v2) + v3) + v4) + v5)), .second, .val (.long (((((s0 + s1) + s2) + s3) + s4) + s5)), .second, .unset, .unset, .unset, .unset, .unset] [(.ref bo)])) _
      refine XS.astore X442.here hx rfl (hb hby at_539) rfl rfl (l' := #[.val (.int p1), .val (.long p2), .second, .val (.long p3), .second, .val (.long p4), .second, .val (.int sl), .val (.ref b1), .val (.ref b2), .val (.int mm), .val (.int kk), .val (.int nm), .val (.int qq), .val (.int x1), .val (.int x2), .val (.int y1), .val (.int y2), .val (.int z1), .val (.int z2), .val (.ref oa), .val (.ref ob), .val (.ref oc), .val (.ref oa), .val (.ref oa), .val (.int tt), .val (.long (((((v0 + v1) + v2) + v3) + v4) + v5)), .second, .val (.long (((((s0 + s1) + s2) + s3) + s4) + s5)), .second, .val (.ref bo), .unset, .unset, .unset, .unset]) rfl ?_
      show Steps p.tables e below (T442.setTop (mkF m 541 #[.val (.int p1), .val (.long p2), .second, .val (.long p3), .second, .val (.long p4), .second, .val (.int sl), .val (.ref b1), .val (.ref b2), .val (.int mm), .val (.int kk), .val (.int nm), .val (.int qq), .val (.int x1), .val (.int x2), .val (.int y1), .val (.int y2), .val (.int z1), .val (.int z2), .val (.ref oa), .val (.ref ob), .val (.ref oc), .val (.ref oa), .val (.ref oa), .val (.int tt), .val (.long (((((v0 + v1) + v2) + v3) + v4) + v5)), .second, .val (.long (((((s0 + s1) + s2) + s3) + s4) + s5)), .second, .val (.ref bo), .unset, .unset, .unset, .unset] [])) _
      refine XS.iload X442.here hx rfl (hb hby at_541) rfl ?_
      show Steps p.tables e below (T442.setTop (mkF m 543 #[.val (.int p1), .val (.long p2), .second, .val (.long p3), .second, .val (.long p4), .second, .val (.int sl), .val (.ref b1), .val (.ref b2), .val (.int mm), .val (.int kk), .val (.int nm), .val (.int qq), .val (.int x1), .val (.int x2), .val (.int y1), .val (.int y2), .val (.int z1), .val (.int z2), .val (.ref oa), .val (.ref ob), .val (.ref oc), .val (.ref oa), .val (.ref oa), .val (.int tt), .val (.long (((((v0 + v1) + v2) + v3) + v4) + v5)), .second, .val (.long (((((s0 + s1) + s2) + s3) + s4) + s5)), .second, .val (.ref bo), .unset, .unset, .unset, .unset] [(.int tt)])) _
      refine XS.ifYes X442.here hx rfl (pc0 := 543) (pc' := 560) rfl (hb hby at_543) rfl ((if0 _ _).trans (feq (by rw [ht]; decide)).2) (by decide) (by decide) ?_
      show Steps p.tables e below (T442.setTop (mkF m 560 #[.val (.int p1), .val (.long p2), .second, .val (.long p3), .second, .val (.long p4), .second, .val (.int sl), .val (.ref b1), .val (.ref b2), .val (.int mm), .val (.int kk), .val (.int nm), .val (.int qq), .val (.int x1), .val (.int x2), .val (.int y1), .val (.int y2), .val (.int z1), .val (.int z2), .val (.ref oa), .val (.ref ob), .val (.ref oc), .val (.ref oa), .val (.ref oa), .val (.int tt), .val (.long (((((v0 + v1) + v2) + v3) + v4) + v5)), .second, .val (.long (((((s0 + s1) + s2) + s3) + s4) + s5)), .second, .val (.ref bo), .unset, .unset, .unset, .unset] [])) _
      refine XS.aload X442.here hx rfl (hb hby at_560) rfl rfl ?_
      exact Steps.refl _
    obtain ⟨cq445, kq445, q445a, q445b, q445c⟩ := isOf hZ rfl Ebo
    obtain ⟨_, _, ⟨T445, L445, k445, n445⟩, -, X445, ⟨Lc445, hQ445, l445, y445, z445⟩, st445⟩ := X442.virtualBack hx (y := (⟨"java/util/OptionalDouble", "isPresent", "()Z"⟩ : MethodName)) (z := (⟨"java/util/OptionalDouble", "isPresent", "()Z"⟩ : MethodName)) hown (mvT hZ (hw _ (List.mem_of_getElem? (i := 38) rfl))) (mvT hZ (hw _ (List.mem_of_getElem? (i := 39) rfl))) (notFace_of_selects (args := #[]) (mvT hZ (hw _ (List.mem_of_getElem? (i := 41) rfl)))) (mvT hZ (hw _ (List.mem_of_getElem? (i := 41) rfl))) (mvT hZ (hw _ (List.mem_of_getElem? (i := 40) rfl))) (by decide) (backOf (W := 0) (rmP l Z a0 hw [] bo (1 : Int32) T442.heap n0 Z442 Fpbo (by decide)) hZ (hw _ (List.mem_of_getElem? (i := 42) rfl)) (hw _ (List.mem_of_getElem? (i := 35) rfl)) (by decide) (by decide)) q445a q445c (g := (mkF m 562 #[.val (.int p1), .val (.long p2), .second, .val (.long p3), .second, .val (.long p4), .second, .val (.int sl), .val (.ref b1), .val (.ref b2), .val (.int mm), .val (.int kk), .val (.int nm), .val (.int qq), .val (.int x1), .val (.int x2), .val (.int y1), .val (.int y2), .val (.int z1), .val (.int z2), .val (.ref oa), .val (.ref ob), .val (.ref oc), .val (.ref oa), .val (.ref oa), .val (.int tt), .val (.long (((((v0 + v1) + v2) + v3) + v4) + v5)), .second, .val (.long (((((s0 + s1) + s2) + s3) + s4) + s5)), .second, .val (.ref bo), .unset, .unset, .unset, .unset] [(.ref bo)])) rfl (by rw [hml]; rfl) (Steps.refl _) (argsL := []) (rest := []) (lenOf pd_8 rfl) rfl (by show 2 * 0 + _ ≤ _; exact Nat.le_of_eq rfl) (hb hby at_562) (fun _ _ => ⟨rfl, rfl, (by decide : (5 + 1) + 0 ≤ _), (by decide : (23 + 2) + 0 ≤ _)⟩)
    dsimp only [Pt.U, Pt.locs, Pt.cells, Pt.slots] at X445 l445 y445 z445 st445 hQ445
    subst l445 y445 z445
    obtain ⟨rfl, Nq445, e445⟩ := hQ445
    have N445 := Fr.app N442 Nq445
    have r446 : Steps p.tables e below S0 (T445.setTop (mkF m 565 #[.val (.int p1), .val (.long p2), .second, .val (.long p3), .second, .val (.long p4), .second, .val (.int sl), .val (.ref b1), .val (.ref b2), .val (.int mm), .val (.int kk), .val (.int nm), .val (.int qq), .val (.int x1), .val (.int x2), .val (.int y1), .val (.int y2), .val (.int z1), .val (.int z2), .val (.ref oa), .val (.ref ob), .val (.ref oc), .val (.ref oa), .val (.ref oa), .val (.int tt), .val (.long (((((v0 + v1) + v2) + v3) + v4) + v5)), .second, .val (.long (((((s0 + s1) + s2) + s3) + s4) + s5)), .second, .val (.ref bo), .unset, .unset, .unset, .unset] [(.int (1 : Int32))])) := r444.trans st445
    have r447 : Steps p.tables e below S0 (T445.setTop (mkF m 572 #[.val (.int p1), .val (.long p2), .second, .val (.long p3), .second, .val (.long p4), .second, .val (.int sl), .val (.ref b1), .val (.ref b2), .val (.int mm), .val (.int kk), .val (.int nm), .val (.int qq), .val (.int x1), .val (.int x2), .val (.int y1), .val (.int y2), .val (.int z1), .val (.int z2), .val (.ref oa), .val (.ref ob), .val (.ref oc), .val (.ref oa), .val (.ref oa), .val (.int tt), .val (.long (((((v0 + v1) + v2) + v3) + v4) + v5)), .second, .val (.long (((((s0 + s1) + s2) + s3) + s4) + s5)), .second, .val (.ref bo), .unset, .unset, .unset, .unset] [(.ref bo)])) := by
      refine r446.trans ?_
      show Steps p.tables e below (T445.setTop (mkF m 565 #[.val (.int p1), .val (.long p2), .second, .val (.long p3), .second, .val (.long p4), .second, .val (.int sl), .val (.ref b1), .val (.ref b2), .val (.int mm), .val (.int kk), .val (.int nm), .val (.int qq), .val (.int x1), .val (.int x2), .val (.int y1), .val (.int y2), .val (.int z1), .val (.int z2), .val (.ref oa), .val (.ref ob), .val (.ref oc), .val (.ref oa), .val (.ref oa), .val (.int tt), .val (.long (((((v0 + v1) + v2) + v3) + v4) + v5)), .second, .val (.long (((((s0 + s1) + s2) + s3) + s4) + s5)), .second, .val (.ref bo), .unset, .unset, .unset, .unset] [(.int (1 : Int32))])) _
      refine XS.ifYes X445.here hx rfl (pc0 := 565) (pc' := 570) rfl (hb hby at_565) rfl ((if0 _ _).trans (feq (by decide)).2) (by decide) (by decide) ?_
      show Steps p.tables e below (T445.setTop (mkF m 570 #[.val (.int p1), .val (.long p2), .second, .val (.long p3), .second, .val (.long p4), .second, .val (.int sl), .val (.ref b1), .val (.ref b2), .val (.int mm), .val (.int kk), .val (.int nm), .val (.int qq), .val (.int x1), .val (.int x2), .val (.int y1), .val (.int y2), .val (.int z1), .val (.int z2), .val (.ref oa), .val (.ref ob), .val (.ref oc), .val (.ref oa), .val (.ref oa), .val (.int tt), .val (.long (((((v0 + v1) + v2) + v3) + v4) + v5)), .second, .val (.long (((((s0 + s1) + s2) + s3) + s4) + s5)), .second, .val (.ref bo), .unset, .unset, .unset, .unset] [])) _
      refine XS.aload X445.here hx rfl (hb hby at_570) rfl rfl ?_
      exact Steps.refl _
    obtain ⟨cq448, kq448, q448a, q448b, q448c⟩ := isOf hZ e445 Ebo
    obtain ⟨_, _, ⟨T448, L448, k448, n448⟩, -, X448, ⟨Lc448, hQ448, l448, y448, z448⟩, st448⟩ := X445.virtualBack hx (y := (⟨"java/util/OptionalDouble", "getAsDouble", "()D"⟩ : MethodName)) (z := (⟨"java/util/OptionalDouble", "getAsDouble", "()D"⟩ : MethodName)) hown (mvT hZ (hw _ (List.mem_of_getElem? (i := 66) rfl))) (mvT hZ (hw _ (List.mem_of_getElem? (i := 67) rfl))) (notFace_of_selects (args := #[]) (mvT hZ (hw _ (List.mem_of_getElem? (i := 69) rfl)))) (mvT hZ (hw _ (List.mem_of_getElem? (i := 69) rfl))) (mvT hZ (hw _ (List.mem_of_getElem? (i := 68) rfl))) (by decide) (backOf (W := 0) (rmG l Z a0 hw [] bo dv T442.heap n0 Z442 Fpbo Fvbo) hZ (hw _ (List.mem_of_getElem? (i := 70) rfl)) (hw _ (List.mem_of_getElem? (i := 35) rfl)) (by decide) (by decide)) q448a q448c (g := (mkF m 572 #[.val (.int p1), .val (.long p2), .second, .val (.long p3), .second, .val (.long p4), .second, .val (.int sl), .val (.ref b1), .val (.ref b2), .val (.int mm), .val (.int kk), .val (.int nm), .val (.int qq), .val (.int x1), .val (.int x2), .val (.int y1), .val (.int y2), .val (.int z1), .val (.int z2), .val (.ref oa), .val (.ref ob), .val (.ref oc), .val (.ref oa), .val (.ref oa), .val (.int tt), .val (.long (((((v0 + v1) + v2) + v3) + v4) + v5)), .second, .val (.long (((((s0 + s1) + s2) + s3) + s4) + s5)), .second, .val (.ref bo), .unset, .unset, .unset, .unset] [(.ref bo)])) rfl (by rw [hml]; rfl) (Steps.refl _) (argsL := []) (rest := []) (lenOf pd_9 rfl) rfl (by show 2 * 0 + _ ≤ _; exact Nat.le_of_eq rfl) (hb hby at_572) (fun _ _ => ⟨rfl, e445, (by decide : ((5 + 1) + 0) + 0 ≤ _), (by decide : ((23 + 2) + 0) + 0 ≤ _)⟩)
    dsimp only [Pt.U, Pt.locs, Pt.cells, Pt.slots] at X448 l448 y448 z448 st448 hQ448
    subst l448 y448 z448
    obtain ⟨rfl, Nq448, e448⟩ := hQ448
    have N448 := Fr.app N445 Nq448
    have r449 : Steps p.tables e below S0 (T448.setTop (mkF m 575 #[.val (.int p1), .val (.long p2), .second, .val (.long p3), .second, .val (.long p4), .second, .val (.int sl), .val (.ref b1), .val (.ref b2), .val (.int mm), .val (.int kk), .val (.int nm), .val (.int qq), .val (.int x1), .val (.int x2), .val (.int y1), .val (.int y2), .val (.int z1), .val (.int z2), .val (.ref oa), .val (.ref ob), .val (.ref oc), .val (.ref oa), .val (.ref oa), .val (.int tt), .val (.long (((((v0 + v1) + v2) + v3) + v4) + v5)), .second, .val (.long (((((s0 + s1) + s2) + s3) + s4) + s5)), .second, .val (.ref bo), .unset, .unset, .unset, .unset] [(.double dv)])) := r447.trans st448
    have yt : Dy 2 0 (FP.i2d tt) := by have z := Dy.i2d tt; rw [ht] at z ⊢; exact z
    obtain ⟨g1, hg1⟩ : ∃ z, FP.dmul dv (FP.i2d tt) = z := ⟨_, rfl⟩
    have yg1 : Dy (2 * SQ - SX * SX) 1 g1 := hg1 ▸ (ydv.mulTo yt (t := 1) (by rfl) rfl bW2 (by decide))
    obtain ⟨g2, hg2⟩ : ∃ z, FP.dmul g1 (FP.i2d tt) = z := ⟨_, rfl⟩
    have yg2 : Dy (2 * SQ - SX * SX) 0 g2 := hg2 ▸ (yg1.mulTo yt (t := 1) (by rfl) rfl bW2 (by decide))
    have hwt : ((((tt.toInt64) * (((((s0 + s1) + s2) + s3) + s4) + s5)) - ((((((v0 + v1) + v2) + v3) + v4) + v5) * (((((v0 + v1) + v2) + v3) + v4) + v5)))).toInt = (2 * SQ - SX * SX) := own_want ⟨by rw [ht]; decide, by decide, by decide⟩ hsq hsx bSQ bXX
    have r450 : Steps p.tables e below S0 (T448.setTop (mkF m 613 #[.val (.int p1), .val (.long p2), .second, .val (.long p3), .second, .val (.long p4), .second, .val (.int sl), .val (.ref b1), .val (.ref b2), .val (.int mm), .val (.int kk), .val (.int nm), .val (.int qq), .val (.int x1), .val (.int x2), .val (.int y1), .val (.int y2), .val (.int z1), .val (.int z2), .val (.ref oa), .val (.ref ob), .val (.ref oc), .val (.ref oa), .val (.ref oa), .val (.int tt), .val (.long (((((v0 + v1) + v2) + v3) + v4) + v5)), .second, .val (.long (((((s0 + s1) + s2) + s3) + s4) + s5)), .second, .val (.ref bo), .val (.double g2), .second, .val (.long (((tt.toInt64) * (((((s0 + s1) + s2) + s3) + s4) + s5)) - ((((((v0 + v1) + v2) + v3) + v4) + v5) * (((((v0 + v1) + v2) + v3) + v4) + v5)))), .second] [(.int (1 : Int32))])) := by
      refine r449.trans ?_
      show Steps p.tables e below (T448.setTop (mkF m 575 #[.val (.int p1), .val (.long p2), .second, .val (.long p3), .second, .val (.long p4), .second, .val (.int sl), .val (.ref b1), .val (.ref b2), .val (.int mm), .val (.int kk), .val (.int nm), .val (.int qq), .val (.int x1), .val (.int x2), .val (.int y1), .val (.int y2), .val (.int z1), .val (.int z2), .val (.ref oa), .val (.ref ob), .val (.ref oc), .val (.ref oa), .val (.ref oa), .val (.int tt), .val (.long (((((v0 + v1) + v2) + v3) + v4) + v5)), .second, .val (.long (((((s0 + s1) + s2) + s3) + s4) + s5)), .second, .val (.ref bo), .unset, .unset, .unset, .unset] [(.double dv)])) _
      refine XS.iload X448.here hx rfl (hb hby at_575) rfl ?_
      show Steps p.tables e below (T448.setTop (mkF m 577 #[.val (.int p1), .val (.long p2), .second, .val (.long p3), .second, .val (.long p4), .second, .val (.int sl), .val (.ref b1), .val (.ref b2), .val (.int mm), .val (.int kk), .val (.int nm), .val (.int qq), .val (.int x1), .val (.int x2), .val (.int y1), .val (.int y2), .val (.int z1), .val (.int z2), .val (.ref oa), .val (.ref ob), .val (.ref oc), .val (.ref oa), .val (.ref oa), .val (.int tt), .val (.long (((((v0 + v1) + v2) + v3) + v4) + v5)), .second, .val (.long (((((s0 + s1) + s2) + s3) + s4) + s5)), .second, .val (.ref bo), .unset, .unset, .unset, .unset] [(.int tt), (.double dv)])) _
      refine XS.i2dS X448.here hx rfl (hb hby at_577) rfl rfl ?_
      show Steps p.tables e below (T448.setTop (mkF m 578 #[.val (.int p1), .val (.long p2), .second, .val (.long p3), .second, .val (.long p4), .second, .val (.int sl), .val (.ref b1), .val (.ref b2), .val (.int mm), .val (.int kk), .val (.int nm), .val (.int qq), .val (.int x1), .val (.int x2), .val (.int y1), .val (.int y2), .val (.int z1), .val (.int z2), .val (.ref oa), .val (.ref ob), .val (.ref oc), .val (.ref oa), .val (.ref oa), .val (.int tt), .val (.long (((((v0 + v1) + v2) + v3) + v4) + v5)), .second, .val (.long (((((s0 + s1) + s2) + s3) + s4) + s5)), .second, .val (.ref bo), .unset, .unset, .unset, .unset] [(.double (FP.i2d tt)), (.double dv)])) _
      refine XS.dmulS X448.here hx rfl (hb hby at_578) rfl (by rw [hg1]; exact yg1.noNaN) hg1 ?_
      show Steps p.tables e below (T448.setTop (mkF m 579 #[.val (.int p1), .val (.long p2), .second, .val (.long p3), .second, .val (.long p4), .second, .val (.int sl), .val (.ref b1), .val (.ref b2), .val (.int mm), .val (.int kk), .val (.int nm), .val (.int qq), .val (.int x1), .val (.int x2), .val (.int y1), .val (.int y2), .val (.int z1), .val (.int z2), .val (.ref oa), .val (.ref ob), .val (.ref oc), .val (.ref oa), .val (.ref oa), .val (.int tt), .val (.long (((((v0 + v1) + v2) + v3) + v4) + v5)), .second, .val (.long (((((s0 + s1) + s2) + s3) + s4) + s5)), .second, .val (.ref bo), .unset, .unset, .unset, .unset] [(.double g1)])) _
      refine XS.iload X448.here hx rfl (hb hby at_579) rfl ?_
      show Steps p.tables e below (T448.setTop (mkF m 581 #[.val (.int p1), .val (.long p2), .second, .val (.long p3), .second, .val (.long p4), .second, .val (.int sl), .val (.ref b1), .val (.ref b2), .val (.int mm), .val (.int kk), .val (.int nm), .val (.int qq), .val (.int x1), .val (.int x2), .val (.int y1), .val (.int y2), .val (.int z1), .val (.int z2), .val (.ref oa), .val (.ref ob), .val (.ref oc), .val (.ref oa), .val (.ref oa), .val (.int tt), .val (.long (((((v0 + v1) + v2) + v3) + v4) + v5)), .second, .val (.long (((((s0 + s1) + s2) + s3) + s4) + s5)), .second, .val (.ref bo), .unset, .unset, .unset, .unset] [(.int tt), (.double g1)])) _
      refine XS.i2dS X448.here hx rfl (hb hby at_581) rfl rfl ?_
      show Steps p.tables e below (T448.setTop (mkF m 582 #[.val (.int p1), .val (.long p2), .second, .val (.long p3), .second, .val (.long p4), .second, .val (.int sl), .val (.ref b1), .val (.ref b2), .val (.int mm), .val (.int kk), .val (.int nm), .val (.int qq), .val (.int x1), .val (.int x2), .val (.int y1), .val (.int y2), .val (.int z1), .val (.int z2), .val (.ref oa), .val (.ref ob), .val (.ref oc), .val (.ref oa), .val (.ref oa), .val (.int tt), .val (.long (((((v0 + v1) + v2) + v3) + v4) + v5)), .second, .val (.long (((((s0 + s1) + s2) + s3) + s4) + s5)), .second, .val (.ref bo), .unset, .unset, .unset, .unset] [(.double (FP.i2d tt)), (.double g1)])) _
      refine XS.dmulS X448.here hx rfl (hb hby at_582) rfl (by rw [hg2]; exact yg2.noNaN) hg2 ?_
      show Steps p.tables e below (T448.setTop (mkF m 583 #[.val (.int p1), .val (.long p2), .second, .val (.long p3), .second, .val (.long p4), .second, .val (.int sl), .val (.ref b1), .val (.ref b2), .val (.int mm), .val (.int kk), .val (.int nm), .val (.int qq), .val (.int x1), .val (.int x2), .val (.int y1), .val (.int y2), .val (.int z1), .val (.int z2), .val (.ref oa), .val (.ref ob), .val (.ref oc), .val (.ref oa), .val (.ref oa), .val (.int tt), .val (.long (((((v0 + v1) + v2) + v3) + v4) + v5)), .second, .val (.long (((((s0 + s1) + s2) + s3) + s4) + s5)), .second, .val (.ref bo), .unset, .unset, .unset, .unset] [(.double g2)])) _
      refine XS.dstore X448.here hx rfl (hb hby at_583) rfl (l' := #[.val (.int p1), .val (.long p2), .second, .val (.long p3), .second, .val (.long p4), .second, .val (.int sl), .val (.ref b1), .val (.ref b2), .val (.int mm), .val (.int kk), .val (.int nm), .val (.int qq), .val (.int x1), .val (.int x2), .val (.int y1), .val (.int y2), .val (.int z1), .val (.int z2), .val (.ref oa), .val (.ref ob), .val (.ref oc), .val (.ref oa), .val (.ref oa), .val (.int tt), .val (.long (((((v0 + v1) + v2) + v3) + v4) + v5)), .second, .val (.long (((((s0 + s1) + s2) + s3) + s4) + s5)), .second, .val (.ref bo), .val (.double g2), .second, .unset, .unset]) rfl ?_
      show Steps p.tables e below (T448.setTop (mkF m 585 #[.val (.int p1), .val (.long p2), .second, .val (.long p3), .second, .val (.long p4), .second, .val (.int sl), .val (.ref b1), .val (.ref b2), .val (.int mm), .val (.int kk), .val (.int nm), .val (.int qq), .val (.int x1), .val (.int x2), .val (.int y1), .val (.int y2), .val (.int z1), .val (.int z2), .val (.ref oa), .val (.ref ob), .val (.ref oc), .val (.ref oa), .val (.ref oa), .val (.int tt), .val (.long (((((v0 + v1) + v2) + v3) + v4) + v5)), .second, .val (.long (((((s0 + s1) + s2) + s3) + s4) + s5)), .second, .val (.ref bo), .val (.double g2), .second, .unset, .unset] [])) _
      refine XS.iload X448.here hx rfl (hb hby at_585) rfl ?_
      show Steps p.tables e below (T448.setTop (mkF m 587 #[.val (.int p1), .val (.long p2), .second, .val (.long p3), .second, .val (.long p4), .second, .val (.int sl), .val (.ref b1), .val (.ref b2), .val (.int mm), .val (.int kk), .val (.int nm), .val (.int qq), .val (.int x1), .val (.int x2), .val (.int y1), .val (.int y2), .val (.int z1), .val (.int z2), .val (.ref oa), .val (.ref ob), .val (.ref oc), .val (.ref oa), .val (.ref oa), .val (.int tt), .val (.long (((((v0 + v1) + v2) + v3) + v4) + v5)), .second, .val (.long (((((s0 + s1) + s2) + s3) + s4) + s5)), .second, .val (.ref bo), .val (.double g2), .second, .unset, .unset] [(.int tt)])) _
      refine XS.i2l X448.here hx rfl (hb hby at_587) rfl ?_
      show Steps p.tables e below (T448.setTop (mkF m 588 #[.val (.int p1), .val (.long p2), .second, .val (.long p3), .second, .val (.long p4), .second, .val (.int sl), .val (.ref b1), .val (.ref b2), .val (.int mm), .val (.int kk), .val (.int nm), .val (.int qq), .val (.int x1), .val (.int x2), .val (.int y1), .val (.int y2), .val (.int z1), .val (.int z2), .val (.ref oa), .val (.ref ob), .val (.ref oc), .val (.ref oa), .val (.ref oa), .val (.int tt), .val (.long (((((v0 + v1) + v2) + v3) + v4) + v5)), .second, .val (.long (((((s0 + s1) + s2) + s3) + s4) + s5)), .second, .val (.ref bo), .val (.double g2), .second, .unset, .unset] [(.long (tt.toInt64))])) _
      refine XS.lload X448.here hx rfl (hb hby at_588) rfl ?_
      show Steps p.tables e below (T448.setTop (mkF m 590 #[.val (.int p1), .val (.long p2), .second, .val (.long p3), .second, .val (.long p4), .second, .val (.int sl), .val (.ref b1), .val (.ref b2), .val (.int mm), .val (.int kk), .val (.int nm), .val (.int qq), .val (.int x1), .val (.int x2), .val (.int y1), .val (.int y2), .val (.int z1), .val (.int z2), .val (.ref oa), .val (.ref ob), .val (.ref oc), .val (.ref oa), .val (.ref oa), .val (.int tt), .val (.long (((((v0 + v1) + v2) + v3) + v4) + v5)), .second, .val (.long (((((s0 + s1) + s2) + s3) + s4) + s5)), .second, .val (.ref bo), .val (.double g2), .second, .unset, .unset] [(.long (((((s0 + s1) + s2) + s3) + s4) + s5)), (.long (tt.toInt64))])) _
      refine XS.lmul X448.here hx rfl (hb hby at_590) rfl ?_
      show Steps p.tables e below (T448.setTop (mkF m 591 #[.val (.int p1), .val (.long p2), .second, .val (.long p3), .second, .val (.long p4), .second, .val (.int sl), .val (.ref b1), .val (.ref b2), .val (.int mm), .val (.int kk), .val (.int nm), .val (.int qq), .val (.int x1), .val (.int x2), .val (.int y1), .val (.int y2), .val (.int z1), .val (.int z2), .val (.ref oa), .val (.ref ob), .val (.ref oc), .val (.ref oa), .val (.ref oa), .val (.int tt), .val (.long (((((v0 + v1) + v2) + v3) + v4) + v5)), .second, .val (.long (((((s0 + s1) + s2) + s3) + s4) + s5)), .second, .val (.ref bo), .val (.double g2), .second, .unset, .unset] [(.long ((tt.toInt64) * (((((s0 + s1) + s2) + s3) + s4) + s5)))])) _
      refine XS.lload X448.here hx rfl (hb hby at_591) rfl ?_
      show Steps p.tables e below (T448.setTop (mkF m 593 #[.val (.int p1), .val (.long p2), .second, .val (.long p3), .second, .val (.long p4), .second, .val (.int sl), .val (.ref b1), .val (.ref b2), .val (.int mm), .val (.int kk), .val (.int nm), .val (.int qq), .val (.int x1), .val (.int x2), .val (.int y1), .val (.int y2), .val (.int z1), .val (.int z2), .val (.ref oa), .val (.ref ob), .val (.ref oc), .val (.ref oa), .val (.ref oa), .val (.int tt), .val (.long (((((v0 + v1) + v2) + v3) + v4) + v5)), .second, .val (.long (((((s0 + s1) + s2) + s3) + s4) + s5)), .second, .val (.ref bo), .val (.double g2), .second, .unset, .unset] [(.long (((((v0 + v1) + v2) + v3) + v4) + v5)), (.long ((tt.toInt64) * (((((s0 + s1) + s2) + s3) + s4) + s5)))])) _
      refine XS.lload X448.here hx rfl (hb hby at_593) rfl ?_
      show Steps p.tables e below (T448.setTop (mkF m 595 #[.val (.int p1), .val (.long p2), .second, .val (.long p3), .second, .val (.long p4), .second, .val (.int sl), .val (.ref b1), .val (.ref b2), .val (.int mm), .val (.int kk), .val (.int nm), .val (.int qq), .val (.int x1), .val (.int x2), .val (.int y1), .val (.int y2), .val (.int z1), .val (.int z2), .val (.ref oa), .val (.ref ob), .val (.ref oc), .val (.ref oa), .val (.ref oa), .val (.int tt), .val (.long (((((v0 + v1) + v2) + v3) + v4) + v5)), .second, .val (.long (((((s0 + s1) + s2) + s3) + s4) + s5)), .second, .val (.ref bo), .val (.double g2), .second, .unset, .unset] [(.long (((((v0 + v1) + v2) + v3) + v4) + v5)), (.long (((((v0 + v1) + v2) + v3) + v4) + v5)), (.long ((tt.toInt64) * (((((s0 + s1) + s2) + s3) + s4) + s5)))])) _
      refine XS.lmul X448.here hx rfl (hb hby at_595) rfl ?_
      show Steps p.tables e below (T448.setTop (mkF m 596 #[.val (.int p1), .val (.long p2), .second, .val (.long p3), .second, .val (.long p4), .second, .val (.int sl), .val (.ref b1), .val (.ref b2), .val (.int mm), .val (.int kk), .val (.int nm), .val (.int qq), .val (.int x1), .val (.int x2), .val (.int y1), .val (.int y2), .val (.int z1), .val (.int z2), .val (.ref oa), .val (.ref ob), .val (.ref oc), .val (.ref oa), .val (.ref oa), .val (.int tt), .val (.long (((((v0 + v1) + v2) + v3) + v4) + v5)), .second, .val (.long (((((s0 + s1) + s2) + s3) + s4) + s5)), .second, .val (.ref bo), .val (.double g2), .second, .unset, .unset] [(.long ((((((v0 + v1) + v2) + v3) + v4) + v5) * (((((v0 + v1) + v2) + v3) + v4) + v5))), (.long ((tt.toInt64) * (((((s0 + s1) + s2) + s3) + s4) + s5)))])) _
      refine XS.lsub X448.here hx rfl (hb hby at_596) rfl ?_
      show Steps p.tables e below (T448.setTop (mkF m 597 #[.val (.int p1), .val (.long p2), .second, .val (.long p3), .second, .val (.long p4), .second, .val (.int sl), .val (.ref b1), .val (.ref b2), .val (.int mm), .val (.int kk), .val (.int nm), .val (.int qq), .val (.int x1), .val (.int x2), .val (.int y1), .val (.int y2), .val (.int z1), .val (.int z2), .val (.ref oa), .val (.ref ob), .val (.ref oc), .val (.ref oa), .val (.ref oa), .val (.int tt), .val (.long (((((v0 + v1) + v2) + v3) + v4) + v5)), .second, .val (.long (((((s0 + s1) + s2) + s3) + s4) + s5)), .second, .val (.ref bo), .val (.double g2), .second, .unset, .unset] [(.long (((tt.toInt64) * (((((s0 + s1) + s2) + s3) + s4) + s5)) - ((((((v0 + v1) + v2) + v3) + v4) + v5) * (((((v0 + v1) + v2) + v3) + v4) + v5))))])) _
      refine XS.lstore X448.here hx rfl (hb hby at_597) rfl (l' := #[.val (.int p1), .val (.long p2), .second, .val (.long p3), .second, .val (.long p4), .second, .val (.int sl), .val (.ref b1), .val (.ref b2), .val (.int mm), .val (.int kk), .val (.int nm), .val (.int qq), .val (.int x1), .val (.int x2), .val (.int y1), .val (.int y2), .val (.int z1), .val (.int z2), .val (.ref oa), .val (.ref ob), .val (.ref oc), .val (.ref oa), .val (.ref oa), .val (.int tt), .val (.long (((((v0 + v1) + v2) + v3) + v4) + v5)), .second, .val (.long (((((s0 + s1) + s2) + s3) + s4) + s5)), .second, .val (.ref bo), .val (.double g2), .second, .val (.long (((tt.toInt64) * (((((s0 + s1) + s2) + s3) + s4) + s5)) - ((((((v0 + v1) + v2) + v3) + v4) + v5) * (((((v0 + v1) + v2) + v3) + v4) + v5)))), .second]) rfl ?_
      show Steps p.tables e below (T448.setTop (mkF m 599 #[.val (.int p1), .val (.long p2), .second, .val (.long p3), .second, .val (.long p4), .second, .val (.int sl), .val (.ref b1), .val (.ref b2), .val (.int mm), .val (.int kk), .val (.int nm), .val (.int qq), .val (.int x1), .val (.int x2), .val (.int y1), .val (.int y2), .val (.int z1), .val (.int z2), .val (.ref oa), .val (.ref ob), .val (.ref oc), .val (.ref oa), .val (.ref oa), .val (.int tt), .val (.long (((((v0 + v1) + v2) + v3) + v4) + v5)), .second, .val (.long (((((s0 + s1) + s2) + s3) + s4) + s5)), .second, .val (.ref bo), .val (.double g2), .second, .val (.long (((tt.toInt64) * (((((s0 + s1) + s2) + s3) + s4) + s5)) - ((((((v0 + v1) + v2) + v3) + v4) + v5) * (((((v0 + v1) + v2) + v3) + v4) + v5)))), .second] [])) _
      refine XS.dload X448.here hx rfl (hb hby at_599) rfl ?_
      show Steps p.tables e below (T448.setTop (mkF m 601 #[.val (.int p1), .val (.long p2), .second, .val (.long p3), .second, .val (.long p4), .second, .val (.int sl), .val (.ref b1), .val (.ref b2), .val (.int mm), .val (.int kk), .val (.int nm), .val (.int qq), .val (.int x1), .val (.int x2), .val (.int y1), .val (.int y2), .val (.int z1), .val (.int z2), .val (.ref oa), .val (.ref ob), .val (.ref oc), .val (.ref oa), .val (.ref oa), .val (.int tt), .val (.long (((((v0 + v1) + v2) + v3) + v4) + v5)), .second, .val (.long (((((s0 + s1) + s2) + s3) + s4) + s5)), .second, .val (.ref bo), .val (.double g2), .second, .val (.long (((tt.toInt64) * (((((s0 + s1) + s2) + s3) + s4) + s5)) - ((((((v0 + v1) + v2) + v3) + v4) + v5) * (((((v0 + v1) + v2) + v3) + v4) + v5)))), .second] [(.double g2)])) _
      refine XS.lload X448.here hx rfl (hb hby at_601) rfl ?_
      show Steps p.tables e below (T448.setTop (mkF m 603 #[.val (.int p1), .val (.long p2), .second, .val (.long p3), .second, .val (.long p4), .second, .val (.int sl), .val (.ref b1), .val (.ref b2), .val (.int mm), .val (.int kk), .val (.int nm), .val (.int qq), .val (.int x1), .val (.int x2), .val (.int y1), .val (.int y2), .val (.int z1), .val (.int z2), .val (.ref oa), .val (.ref ob), .val (.ref oc), .val (.ref oa), .val (.ref oa), .val (.int tt), .val (.long (((((v0 + v1) + v2) + v3) + v4) + v5)), .second, .val (.long (((((s0 + s1) + s2) + s3) + s4) + s5)), .second, .val (.ref bo), .val (.double g2), .second, .val (.long (((tt.toInt64) * (((((s0 + s1) + s2) + s3) + s4) + s5)) - ((((((v0 + v1) + v2) + v3) + v4) + v5) * (((((v0 + v1) + v2) + v3) + v4) + v5)))), .second] [(.long (((tt.toInt64) * (((((s0 + s1) + s2) + s3) + s4) + s5)) - ((((((v0 + v1) + v2) + v3) + v4) + v5) * (((((v0 + v1) + v2) + v3) + v4) + v5)))), (.double g2)])) _
      refine XS.l2dS X448.here hx rfl (hb hby at_603) rfl rfl ?_
      show Steps p.tables e below (T448.setTop (mkF m 604 #[.val (.int p1), .val (.long p2), .second, .val (.long p3), .second, .val (.long p4), .second, .val (.int sl), .val (.ref b1), .val (.ref b2), .val (.int mm), .val (.int kk), .val (.int nm), .val (.int qq), .val (.int x1), .val (.int x2), .val (.int y1), .val (.int y2), .val (.int z1), .val (.int z2), .val (.ref oa), .val (.ref ob), .val (.ref oc), .val (.ref oa), .val (.ref oa), .val (.int tt), .val (.long (((((v0 + v1) + v2) + v3) + v4) + v5)), .second, .val (.long (((((s0 + s1) + s2) + s3) + s4) + s5)), .second, .val (.ref bo), .val (.double g2), .second, .val (.long (((tt.toInt64) * (((((s0 + s1) + s2) + s3) + s4) + s5)) - ((((((v0 + v1) + v2) + v3) + v4) + v5) * (((((v0 + v1) + v2) + v3) + v4) + v5)))), .second] [(.double (FP.l2d (((tt.toInt64) * (((((s0 + s1) + s2) + s3) + s4) + s5)) - ((((((v0 + v1) + v2) + v3) + v4) + v5) * (((((v0 + v1) + v2) + v3) + v4) + v5))))), (.double g2)])) _
      refine XS.dcmpS X448.here hx rfl (hb hby at_604) rfl (show cmpValue (FP.dcmp g2 (FP.l2d (((tt.toInt64) * (((((s0 + s1) + s2) + s3) + s4) + s5)) - ((((((v0 + v1) + v2) + v3) + v4) + v5) * (((((v0 + v1) + v2) + v3) + v4) + v5))))) .l = (0 : Int32) from (by rw [yg2.cmpV (dy_l hwt bW2)]; simp)) ?_
      show Steps p.tables e below (T448.setTop (mkF m 605 #[.val (.int p1), .val (.long p2), .second, .val (.long p3), .second, .val (.long p4), .second, .val (.int sl), .val (.ref b1), .val (.ref b2), .val (.int mm), .val (.int kk), .val (.int nm), .val (.int qq), .val (.int x1), .val (.int x2), .val (.int y1), .val (.int y2), .val (.int z1), .val (.int z2), .val (.ref oa), .val (.ref ob), .val (.ref oc), .val (.ref oa), .val (.ref oa), .val (.int tt), .val (.long (((((v0 + v1) + v2) + v3) + v4) + v5)), .second, .val (.long (((((s0 + s1) + s2) + s3) + s4) + s5)), .second, .val (.ref bo), .val (.double g2), .second, .val (.long (((tt.toInt64) * (((((s0 + s1) + s2) + s3) + s4) + s5)) - ((((((v0 + v1) + v2) + v3) + v4) + v5) * (((((v0 + v1) + v2) + v3) + v4) + v5)))), .second] [(.int (0 : Int32))])) _
      refine XS.ifNo X448.here hx rfl (hb hby at_605) rfl ((if0 _ _).trans (teq rfl).2) ?_
      show Steps p.tables e below (T448.setTop (mkF m 608 #[.val (.int p1), .val (.long p2), .second, .val (.long p3), .second, .val (.long p4), .second, .val (.int sl), .val (.ref b1), .val (.ref b2), .val (.int mm), .val (.int kk), .val (.int nm), .val (.int qq), .val (.int x1), .val (.int x2), .val (.int y1), .val (.int y2), .val (.int z1), .val (.int z2), .val (.ref oa), .val (.ref ob), .val (.ref oc), .val (.ref oa), .val (.ref oa), .val (.int tt), .val (.long (((((v0 + v1) + v2) + v3) + v4) + v5)), .second, .val (.long (((((s0 + s1) + s2) + s3) + s4) + s5)), .second, .val (.ref bo), .val (.double g2), .second, .val (.long (((tt.toInt64) * (((((s0 + s1) + s2) + s3) + s4) + s5)) - ((((((v0 + v1) + v2) + v3) + v4) + v5) * (((((v0 + v1) + v2) + v3) + v4) + v5)))), .second] [])) _
      refine XS.iconst X448.here hx rfl (hb hby at_608) ?_
      show Steps p.tables e below (T448.setTop (mkF m 609 #[.val (.int p1), .val (.long p2), .second, .val (.long p3), .second, .val (.long p4), .second, .val (.int sl), .val (.ref b1), .val (.ref b2), .val (.int mm), .val (.int kk), .val (.int nm), .val (.int qq), .val (.int x1), .val (.int x2), .val (.int y1), .val (.int y2), .val (.int z1), .val (.int z2), .val (.ref oa), .val (.ref ob), .val (.ref oc), .val (.ref oa), .val (.ref oa), .val (.int tt), .val (.long (((((v0 + v1) + v2) + v3) + v4) + v5)), .second, .val (.long (((((s0 + s1) + s2) + s3) + s4) + s5)), .second, .val (.ref bo), .val (.double g2), .second, .val (.long (((tt.toInt64) * (((((s0 + s1) + s2) + s3) + s4) + s5)) - ((((((v0 + v1) + v2) + v3) + v4) + v5) * (((((v0 + v1) + v2) + v3) + v4) + v5)))), .second] [(.int (1 : Int32))])) _
      refine XS.goto X448.here hx rfl (pc0 := 609) (pc' := 613) rfl (hb hby at_609) (by decide) (by decide) ?_
      exact Steps.refl _
    obtain ⟨fs, hr, hrun, hended, hW, hsame⟩ := X448.leave (v := some (.int (1 : Int32))) (fun h => by rw [Bd.returns] at h; cases h)
    refine ⟨_, _, pre0 _ ?_, hrun, hended, _, _, rfl, ?_, ⟨_, rfl⟩, hW, hsame.mono (by decide) (by decide)⟩
    · rw [← hS0]
      refine r450.trans ?_
      show Steps p.tables e below (T448.setTop (mkF m 613 #[.val (.int p1), .val (.long p2), .second, .val (.long p3), .second, .val (.long p4), .second, .val (.int sl), .val (.ref b1), .val (.ref b2), .val (.int mm), .val (.int kk), .val (.int nm), .val (.int qq), .val (.int x1), .val (.int x2), .val (.int y1), .val (.int y2), .val (.int z1), .val (.int z2), .val (.ref oa), .val (.ref ob), .val (.ref oc), .val (.ref oa), .val (.ref oa), .val (.int tt), .val (.long (((((v0 + v1) + v2) + v3) + v4) + v5)), .second, .val (.long (((((s0 + s1) + s2) + s3) + s4) + s5)), .second, .val (.ref bo), .val (.double g2), .second, .val (.long (((tt.toInt64) * (((((s0 + s1) + s2) + s3) + s4) + s5)) - ((((((v0 + v1) + v2) + v3) + v4) + v5) * (((((v0 + v1) + v2) + v3) + v4) + v5)))), .second] [(.int (1 : Int32))])) _
      exact retB X448 hx Bd.returns (by first | exact Or.inr rfl | exact Or.inl rfl | (split <;> simp)) (hb hby at_613) hr
    · exact ⟨rfl, N448⟩
  · skip
    rw [← htt] at ht
    have hD : ¬ cn < 1 := fun z => by have := Int64.lt_iff_toInt_lt.mp z; rw [show (1 : Int64).toInt = 1 by decide, hc] at this; exact absurd this (by decide)
    obtain ⟨dv, hdv⟩ : ∃ z, FP.ddiv sq (FP.l2d cn) = z := ⟨_, rfl⟩
    have ydv : Dy (4 * SQ - SX * SX) 4 dv := hdv ▸ ((up1 (up1 yW)).cast (nb10 _) rfl).div (dy_l hc (by decide)) (by decide) rfl bW4 (by decide)
    obtain ⟨cq451, kq451, q451a, q451b, q451c⟩ := isOf hZ eQ EM
    obtain ⟨_, _, ⟨T451, L451, k451, n451⟩, -, X451, ⟨Lc451, hQ451, l451, y451, z451⟩, st451⟩ := XQ.virtualBack hx (y := (⟨"org/rowfold/aggregate/Moments", "variance", "(Z)Ljava/util/OptionalDouble;"⟩ : MethodName)) (z := (⟨"org/rowfold/aggregate/Moments", "variance", "(Z)Ljava/util/OptionalDouble;"⟩ : MethodName)) hown (mvT hZ (hw _ (List.mem_of_getElem? (i := 28) rfl))) (mvT hZ (hw _ (List.mem_of_getElem? (i := 29) rfl))) (notFace_of_selects (args := #[]) (mvT hZ (hw _ (List.mem_of_getElem? (i := 31) rfl)))) (mvT hZ (hw _ (List.mem_of_getElem? (i := 31) rfl))) (mvT hZ (hw _ (List.mem_of_getElem? (i := 30) rfl))) (by decide) (backOf (W := 0) (rmV0o l Z a0 hw [] oa (0 : Int32) cn sq dv hM n0 ZM rfl FcM FsM hD hdv ydv.noNaN) hZ (hw _ (List.mem_of_getElem? (i := 32) rfl)) (hw _ (List.mem_of_getElem? (i := 8) rfl)) (by decide) (by decide)) q451a q451c (g := (mkF m 536 #[.val (.int p1), .val (.long p2), .second, .val (.long p3), .second, .val (.long p4), .second, .val (.int sl), .val (.ref b1), .val (.ref b2), .val (.int mm), .val (.int kk), .val (.int nm), .val (.int qq), .val (.int x1), .val (.int x2), .val (.int y1), .val (.int y2), .val (.int z1), .val (.int z2), .val (.ref oa), .val (.ref ob), .val (.ref oc), .val (.ref oa), .val (.ref oa), .val (.int tt), .val (.long (((((v0 + v1) + v2) + v3) + v4) + v5)), .second, .val (.long (((((s0 + s1) + s2) + s3) + s4) + s5)), .second, .unset, .unset, .unset, .unset, .unset] [(.int (0 : Int32)), (.ref oa)])) rfl (by rw [hml]; rfl) (Steps.refl _) (argsL := [(.int (0 : Int32))]) (rest := []) (lenOf pd_7 rfl) rfl (by show 2 * 0 + _ ≤ _; exact Nat.le_of_eq rfl) (hb hby at_536) (fun _ _ => ⟨rfl, eQ, (by decide : 5 + 1 ≤ _), (by decide : 23 + 2 ≤ _)⟩)
    dsimp only [Pt.U, Pt.locs, Pt.cells, Pt.slots] at X451 l451 y451 z451 st451 hQ451
    subst l451 y451 z451
    obtain ⟨bo, rfl, sbo, Ebo, Fpbo, Fvbo, Kc451, Nq451⟩ := hQ451
    have N451 := Fr.app NQ Nq451
    have r452 : Steps p.tables e below S0 (T451.setTop (mkF m 539 #[.val (.int p1), .val (.long p2), .second, .val (.long p3), .second, .val (.long p4), .second, .val (.int sl), .val (.ref b1), .val (.ref b2), .val (.int mm), .val (.int kk), .val (.int nm), .val (.int qq), .val (.int x1), .val (.int x2), .val (.int y1), .val (.int y2), .val (.int z1), .val (.int z2), .val (.ref oa), .val (.ref ob), .val (.ref oc), .val (.ref oa), .val (.ref oa), .val (.int tt), .val (.long (((((v0 + v1) + v2) + v3) + v4) + v5)), .second, .val (.long (((((s0 + s1) + s2) + s3) + s4) + s5)), .second, .unset, .unset, .unset, .unset, .unset] [(.ref bo)])) := r435.trans st451
    have F451_oa_count := FcM.keep Kc451 nin0
    have F451_oa_squares := FsM.keep Kc451 nin0
    have E451_oa := EM.keep Kc451
    have Z451 : n0 ≤ T451.heap.size := Nat.le_trans ZM Kc451.1
    have O451 := OM.keep Kc451 (all0)
    have r453 : Steps p.tables e below S0 (T451.setTop (mkF m 562 #[.val (.int p1), .val (.long p2), .second, .val (.long p3), .second, .val (.long p4), .second, .val (.int sl), .val (.ref b1), .val (.ref b2), .val (.int mm), .val (.int kk), .val (.int nm), .val (.int qq), .val (.int x1), .val (.int x2), .val (.int y1), .val (.int y2), .val (.int z1), .val (.int z2), .val (.ref oa), .val (.ref ob), .val (.ref oc), .val (.ref oa), .val (.ref oa), .val (.int tt), .val (.long (((((v0 + v1) + v2) + v3) + v4) + v5)), .second, .val (.long (((((s0 + s1) + s2) + s3) + s4) + s5)), .second, .val (.ref bo), .unset, .unset, .unset, .unset] [(.ref bo)])) := by
      refine r452.trans ?_
      show Steps p.tables e below (T451.setTop (mkF m 539 #[.val (.int p1), .val (.long p2), .second, .val (.long p3), .second, .val (.long p4), .second, .val (.int sl), .val (.ref b1), .val (.ref b2), .val (.int mm), .val (.int kk), .val (.int nm), .val (.int qq), .val (.int x1), .val (.int x2), .val (.int y1), .val (.int y2), .val (.int z1), .val (.int z2), .val (.ref oa), .val (.ref ob), .val (.ref oc), .val (.ref oa), .val (.ref oa), .val (.int tt), .val (.long (((((v0 + v1) + v2) + v3) + v4) + v5)), .second, .val (.long (((((s0 + s1) + s2) + s3) + s4) + s5)), .second, .unset, .unset, .unset, .unset, .unset] [(.ref bo)])) _
      refine XS.astore X451.here hx rfl (hb hby at_539) rfl rfl (l' := #[.val (.int p1), .val (.long p2), .second, .val (.long p3), .second, .val (.long p4), .second, .val (.int sl), .val (.ref b1), .val (.ref b2), .val (.int mm), .val (.int kk), .val (.int nm), .val (.int qq), .val (.int x1), .val (.int x2), .val (.int y1), .val (.int y2), .val (.int z1), .val (.int z2), .val (.ref oa), .val (.ref ob), .val (.ref oc), .val (.ref oa), .val (.ref oa), .val (.int tt), .val (.long (((((v0 + v1) + v2) + v3) + v4) + v5)), .second, .val (.long (((((s0 + s1) + s2) + s3) + s4) + s5)), .second, .val (.ref bo), .unset, .unset, .unset, .unset]) rfl ?_
      show Steps p.tables e below (T451.setTop (mkF m 541 #[.val (.int p1), .val (.long p2), .second, .val (.long p3), .second, .val (.long p4), .second, .val (.int sl), .val (.ref b1), .val (.ref b2), .val (.int mm), .val (.int kk), .val (.int nm), .val (.int qq), .val (.int x1), .val (.int x2), .val (.int y1), .val (.int y2), .val (.int z1), .val (.int z2), .val (.ref oa), .val (.ref ob), .val (.ref oc), .val (.ref oa), .val (.ref oa), .val (.int tt), .val (.long (((((v0 + v1) + v2) + v3) + v4) + v5)), .second, .val (.long (((((s0 + s1) + s2) + s3) + s4) + s5)), .second, .val (.ref bo), .unset, .unset, .unset, .unset] [])) _
      refine XS.iload X451.here hx rfl (hb hby at_541) rfl ?_
      show Steps p.tables e below (T451.setTop (mkF m 543 #[.val (.int p1), .val (.long p2), .second, .val (.long p3), .second, .val (.long p4), .second, .val (.int sl), .val (.ref b1), .val (.ref b2), .val (.int mm), .val (.int kk), .val (.int nm), .val (.int qq), .val (.int x1), .val (.int x2), .val (.int y1), .val (.int y2), .val (.int z1), .val (.int z2), .val (.ref oa), .val (.ref ob), .val (.ref oc), .val (.ref oa), .val (.ref oa), .val (.int tt), .val (.long (((((v0 + v1) + v2) + v3) + v4) + v5)), .second, .val (.long (((((s0 + s1) + s2) + s3) + s4) + s5)), .second, .val (.ref bo), .unset, .unset, .unset, .unset] [(.int tt)])) _
      refine XS.ifYes X451.here hx rfl (pc0 := 543) (pc' := 560) rfl (hb hby at_543) rfl ((if0 _ _).trans (feq (by rw [ht]; decide)).2) (by decide) (by decide) ?_
      show Steps p.tables e below (T451.setTop (mkF m 560 #[.val (.int p1), .val (.long p2), .second, .val (.long p3), .second, .val (.long p4), .second, .val (.int sl), .val (.ref b1), .val (.ref b2), .val (.int mm), .val (.int kk), .val (.int nm), .val (.int qq), .val (.int x1), .val (.int x2), .val (.int y1), .val (.int y2), .val (.int z1), .val (.int z2), .val (.ref oa), .val (.ref ob), .val (.ref oc), .val (.ref oa), .val (.ref oa), .val (.int tt), .val (.long (((((v0 + v1) + v2) + v3) + v4) + v5)), .second, .val (.long (((((s0 + s1) + s2) + s3) + s4) + s5)), .second, .val (.ref bo), .unset, .unset, .unset, .unset] [])) _
      refine XS.aload X451.here hx rfl (hb hby at_560) rfl rfl ?_
      exact Steps.refl _
    obtain ⟨cq454, kq454, q454a, q454b, q454c⟩ := isOf hZ rfl Ebo
    obtain ⟨_, _, ⟨T454, L454, k454, n454⟩, -, X454, ⟨Lc454, hQ454, l454, y454, z454⟩, st454⟩ := X451.virtualBack hx (y := (⟨"java/util/OptionalDouble", "isPresent", "()Z"⟩ : MethodName)) (z := (⟨"java/util/OptionalDouble", "isPresent", "()Z"⟩ : MethodName)) hown (mvT hZ (hw _ (List.mem_of_getElem? (i := 38) rfl))) (mvT hZ (hw _ (List.mem_of_getElem? (i := 39) rfl))) (notFace_of_selects (args := #[]) (mvT hZ (hw _ (List.mem_of_getElem? (i := 41) rfl)))) (mvT hZ (hw _ (List.mem_of_getElem? (i := 41) rfl))) (mvT hZ (hw _ (List.mem_of_getElem? (i := 40) rfl))) (by decide) (backOf (W := 0) (rmP l Z a0 hw [] bo (1 : Int32) T451.heap n0 Z451 Fpbo (by decide)) hZ (hw _ (List.mem_of_getElem? (i := 42) rfl)) (hw _ (List.mem_of_getElem? (i := 35) rfl)) (by decide) (by decide)) q454a q454c (g := (mkF m 562 #[.val (.int p1), .val (.long p2), .second, .val (.long p3), .second, .val (.long p4), .second, .val (.int sl), .val (.ref b1), .val (.ref b2), .val (.int mm), .val (.int kk), .val (.int nm), .val (.int qq), .val (.int x1), .val (.int x2), .val (.int y1), .val (.int y2), .val (.int z1), .val (.int z2), .val (.ref oa), .val (.ref ob), .val (.ref oc), .val (.ref oa), .val (.ref oa), .val (.int tt), .val (.long (((((v0 + v1) + v2) + v3) + v4) + v5)), .second, .val (.long (((((s0 + s1) + s2) + s3) + s4) + s5)), .second, .val (.ref bo), .unset, .unset, .unset, .unset] [(.ref bo)])) rfl (by rw [hml]; rfl) (Steps.refl _) (argsL := []) (rest := []) (lenOf pd_8 rfl) rfl (by show 2 * 0 + _ ≤ _; exact Nat.le_of_eq rfl) (hb hby at_562) (fun _ _ => ⟨rfl, rfl, (by decide : (5 + 1) + 0 ≤ _), (by decide : (23 + 2) + 0 ≤ _)⟩)
    dsimp only [Pt.U, Pt.locs, Pt.cells, Pt.slots] at X454 l454 y454 z454 st454 hQ454
    subst l454 y454 z454
    obtain ⟨rfl, Nq454, e454⟩ := hQ454
    have N454 := Fr.app N451 Nq454
    have r455 : Steps p.tables e below S0 (T454.setTop (mkF m 565 #[.val (.int p1), .val (.long p2), .second, .val (.long p3), .second, .val (.long p4), .second, .val (.int sl), .val (.ref b1), .val (.ref b2), .val (.int mm), .val (.int kk), .val (.int nm), .val (.int qq), .val (.int x1), .val (.int x2), .val (.int y1), .val (.int y2), .val (.int z1), .val (.int z2), .val (.ref oa), .val (.ref ob), .val (.ref oc), .val (.ref oa), .val (.ref oa), .val (.int tt), .val (.long (((((v0 + v1) + v2) + v3) + v4) + v5)), .second, .val (.long (((((s0 + s1) + s2) + s3) + s4) + s5)), .second, .val (.ref bo), .unset, .unset, .unset, .unset] [(.int (1 : Int32))])) := r453.trans st454
    have r456 : Steps p.tables e below S0 (T454.setTop (mkF m 572 #[.val (.int p1), .val (.long p2), .second, .val (.long p3), .second, .val (.long p4), .second, .val (.int sl), .val (.ref b1), .val (.ref b2), .val (.int mm), .val (.int kk), .val (.int nm), .val (.int qq), .val (.int x1), .val (.int x2), .val (.int y1), .val (.int y2), .val (.int z1), .val (.int z2), .val (.ref oa), .val (.ref ob), .val (.ref oc), .val (.ref oa), .val (.ref oa), .val (.int tt), .val (.long (((((v0 + v1) + v2) + v3) + v4) + v5)), .second, .val (.long (((((s0 + s1) + s2) + s3) + s4) + s5)), .second, .val (.ref bo), .unset, .unset, .unset, .unset] [(.ref bo)])) := by
      refine r455.trans ?_
      show Steps p.tables e below (T454.setTop (mkF m 565 #[.val (.int p1), .val (.long p2), .second, .val (.long p3), .second, .val (.long p4), .second, .val (.int sl), .val (.ref b1), .val (.ref b2), .val (.int mm), .val (.int kk), .val (.int nm), .val (.int qq), .val (.int x1), .val (.int x2), .val (.int y1), .val (.int y2), .val (.int z1), .val (.int z2), .val (.ref oa), .val (.ref ob), .val (.ref oc), .val (.ref oa), .val (.ref oa), .val (.int tt), .val (.long (((((v0 + v1) + v2) + v3) + v4) + v5)), .second, .val (.long (((((s0 + s1) + s2) + s3) + s4) + s5)), .second, .val (.ref bo), .unset, .unset, .unset, .unset] [(.int (1 : Int32))])) _
      refine XS.ifYes X454.here hx rfl (pc0 := 565) (pc' := 570) rfl (hb hby at_565) rfl ((if0 _ _).trans (feq (by decide)).2) (by decide) (by decide) ?_
      show Steps p.tables e below (T454.setTop (mkF m 570 #[.val (.int p1), .val (.long p2), .second, .val (.long p3), .second, .val (.long p4), .second, .val (.int sl), .val (.ref b1), .val (.ref b2), .val (.int mm), .val (.int kk), .val (.int nm), .val (.int qq), .val (.int x1), .val (.int x2), .val (.int y1), .val (.int y2), .val (.int z1), .val (.int z2), .val (.ref oa), .val (.ref ob), .val (.ref oc), .val (.ref oa), .val (.ref oa), .val (.int tt), .val (.long (((((v0 + v1) + v2) + v3) + v4) + v5)), .second, .val (.long (((((s0 + s1) + s2) + s3) + s4) + s5)), .second, .val (.ref bo), .unset, .unset, .unset, .unset] [])) _
      refine XS.aload X454.here hx rfl (hb hby at_570) rfl rfl ?_
      exact Steps.refl _
    obtain ⟨cq457, kq457, q457a, q457b, q457c⟩ := isOf hZ e454 Ebo
    obtain ⟨_, _, ⟨T457, L457, k457, n457⟩, -, X457, ⟨Lc457, hQ457, l457, y457, z457⟩, st457⟩ := X454.virtualBack hx (y := (⟨"java/util/OptionalDouble", "getAsDouble", "()D"⟩ : MethodName)) (z := (⟨"java/util/OptionalDouble", "getAsDouble", "()D"⟩ : MethodName)) hown (mvT hZ (hw _ (List.mem_of_getElem? (i := 66) rfl))) (mvT hZ (hw _ (List.mem_of_getElem? (i := 67) rfl))) (notFace_of_selects (args := #[]) (mvT hZ (hw _ (List.mem_of_getElem? (i := 69) rfl)))) (mvT hZ (hw _ (List.mem_of_getElem? (i := 69) rfl))) (mvT hZ (hw _ (List.mem_of_getElem? (i := 68) rfl))) (by decide) (backOf (W := 0) (rmG l Z a0 hw [] bo dv T451.heap n0 Z451 Fpbo Fvbo) hZ (hw _ (List.mem_of_getElem? (i := 70) rfl)) (hw _ (List.mem_of_getElem? (i := 35) rfl)) (by decide) (by decide)) q457a q457c (g := (mkF m 572 #[.val (.int p1), .val (.long p2), .second, .val (.long p3), .second, .val (.long p4), .second, .val (.int sl), .val (.ref b1), .val (.ref b2), .val (.int mm), .val (.int kk), .val (.int nm), .val (.int qq), .val (.int x1), .val (.int x2), .val (.int y1), .val (.int y2), .val (.int z1), .val (.int z2), .val (.ref oa), .val (.ref ob), .val (.ref oc), .val (.ref oa), .val (.ref oa), .val (.int tt), .val (.long (((((v0 + v1) + v2) + v3) + v4) + v5)), .second, .val (.long (((((s0 + s1) + s2) + s3) + s4) + s5)), .second, .val (.ref bo), .unset, .unset, .unset, .unset] [(.ref bo)])) rfl (by rw [hml]; rfl) (Steps.refl _) (argsL := []) (rest := []) (lenOf pd_9 rfl) rfl (by show 2 * 0 + _ ≤ _; exact Nat.le_of_eq rfl) (hb hby at_572) (fun _ _ => ⟨rfl, e454, (by decide : ((5 + 1) + 0) + 0 ≤ _), (by decide : ((23 + 2) + 0) + 0 ≤ _)⟩)
    dsimp only [Pt.U, Pt.locs, Pt.cells, Pt.slots] at X457 l457 y457 z457 st457 hQ457
    subst l457 y457 z457
    obtain ⟨rfl, Nq457, e457⟩ := hQ457
    have N457 := Fr.app N454 Nq457
    have r458 : Steps p.tables e below S0 (T457.setTop (mkF m 575 #[.val (.int p1), .val (.long p2), .second, .val (.long p3), .second, .val (.long p4), .second, .val (.int sl), .val (.ref b1), .val (.ref b2), .val (.int mm), .val (.int kk), .val (.int nm), .val (.int qq), .val (.int x1), .val (.int x2), .val (.int y1), .val (.int y2), .val (.int z1), .val (.int z2), .val (.ref oa), .val (.ref ob), .val (.ref oc), .val (.ref oa), .val (.ref oa), .val (.int tt), .val (.long (((((v0 + v1) + v2) + v3) + v4) + v5)), .second, .val (.long (((((s0 + s1) + s2) + s3) + s4) + s5)), .second, .val (.ref bo), .unset, .unset, .unset, .unset] [(.double dv)])) := r456.trans st457
    have yt : Dy 4 0 (FP.i2d tt) := by have z := Dy.i2d tt; rw [ht] at z ⊢; exact z
    obtain ⟨g1, hg1⟩ : ∃ z, FP.dmul dv (FP.i2d tt) = z := ⟨_, rfl⟩
    have yg1 : Dy (4 * SQ - SX * SX) 2 g1 := hg1 ▸ (ydv.mulTo yt (t := 2) (by rfl) rfl bW4 (by decide))
    obtain ⟨g2, hg2⟩ : ∃ z, FP.dmul g1 (FP.i2d tt) = z := ⟨_, rfl⟩
    have yg2 : Dy (4 * SQ - SX * SX) 0 g2 := hg2 ▸ (yg1.mulTo yt (t := 2) (by rfl) rfl bW4 (by decide))
    have hwt : ((((tt.toInt64) * (((((s0 + s1) + s2) + s3) + s4) + s5)) - ((((((v0 + v1) + v2) + v3) + v4) + v5) * (((((v0 + v1) + v2) + v3) + v4) + v5)))).toInt = (4 * SQ - SX * SX) := own_want ⟨by rw [ht]; decide, by decide, by decide⟩ hsq hsx bSQ bXX
    have r459 : Steps p.tables e below S0 (T457.setTop (mkF m 613 #[.val (.int p1), .val (.long p2), .second, .val (.long p3), .second, .val (.long p4), .second, .val (.int sl), .val (.ref b1), .val (.ref b2), .val (.int mm), .val (.int kk), .val (.int nm), .val (.int qq), .val (.int x1), .val (.int x2), .val (.int y1), .val (.int y2), .val (.int z1), .val (.int z2), .val (.ref oa), .val (.ref ob), .val (.ref oc), .val (.ref oa), .val (.ref oa), .val (.int tt), .val (.long (((((v0 + v1) + v2) + v3) + v4) + v5)), .second, .val (.long (((((s0 + s1) + s2) + s3) + s4) + s5)), .second, .val (.ref bo), .val (.double g2), .second, .val (.long (((tt.toInt64) * (((((s0 + s1) + s2) + s3) + s4) + s5)) - ((((((v0 + v1) + v2) + v3) + v4) + v5) * (((((v0 + v1) + v2) + v3) + v4) + v5)))), .second] [(.int (1 : Int32))])) := by
      refine r458.trans ?_
      show Steps p.tables e below (T457.setTop (mkF m 575 #[.val (.int p1), .val (.long p2), .second, .val (.long p3), .second, .val (.long p4), .second, .val (.int sl), .val (.ref b1), .val (.ref b2), .val (.int mm), .val (.int kk), .val (.int nm), .val (.int qq), .val (.int x1), .val (.int x2), .val (.int y1), .val (.int y2), .val (.int z1), .val (.int z2), .val (.ref oa), .val (.ref ob), .val (.ref oc), .val (.ref oa), .val (.ref oa), .val (.int tt), .val (.long (((((v0 + v1) + v2) + v3) + v4) + v5)), .second, .val (.long (((((s0 + s1) + s2) + s3) + s4) + s5)), .second, .val (.ref bo), .unset, .unset, .unset, .unset] [(.double dv)])) _
      refine XS.iload X457.here hx rfl (hb hby at_575) rfl ?_
      show Steps p.tables e below (T457.setTop (mkF m 577 #[.val (.int p1), .val (.long p2), .second, .val (.long p3), .second, .val (.long p4), .second, .val (.int sl), .val (.ref b1), .val (.ref b2), .val (.int mm), .val (.int kk), .val (.int nm), .val (.int qq), .val (.int x1), .val (.int x2), .val (.int y1), .val (.int y2), .val (.int z1), .val (.int z2), .val (.ref oa), .val (.ref ob), .val (.ref oc), .val (.ref oa), .val (.ref oa), .val (.int tt), .val (.long (((((v0 + v1) + v2) + v3) + v4) + v5)), .second, .val (.long (((((s0 + s1) + s2) + s3) + s4) + s5)), .second, .val (.ref bo), .unset, .unset, .unset, .unset] [(.int tt), (.double dv)])) _
      refine XS.i2dS X457.here hx rfl (hb hby at_577) rfl rfl ?_
      show Steps p.tables e below (T457.setTop (mkF m 578 #[.val (.int p1), .val (.long p2), .second, .val (.long p3), .second, .val (.long p4), .second, .val (.int sl), .val (.ref b1), .val (.ref b2), .val (.int mm), .val (.int kk), .val (.int nm), .val (.int qq), .val (.int x1), .val (.int x2), .val (.int y1), .val (.int y2), .val (.int z1), .val (.int z2), .val (.ref oa), .val (.ref ob), .val (.ref oc), .val (.ref oa), .val (.ref oa), .val (.int tt), .val (.long (((((v0 + v1) + v2) + v3) + v4) + v5)), .second, .val (.long (((((s0 + s1) + s2) + s3) + s4) + s5)), .second, .val (.ref bo), .unset, .unset, .unset, .unset] [(.double (FP.i2d tt)), (.double dv)])) _
      refine XS.dmulS X457.here hx rfl (hb hby at_578) rfl (by rw [hg1]; exact yg1.noNaN) hg1 ?_
      show Steps p.tables e below (T457.setTop (mkF m 579 #[.val (.int p1), .val (.long p2), .second, .val (.long p3), .second, .val (.long p4), .second, .val (.int sl), .val (.ref b1), .val (.ref b2), .val (.int mm), .val (.int kk), .val (.int nm), .val (.int qq), .val (.int x1), .val (.int x2), .val (.int y1), .val (.int y2), .val (.int z1), .val (.int z2), .val (.ref oa), .val (.ref ob), .val (.ref oc), .val (.ref oa), .val (.ref oa), .val (.int tt), .val (.long (((((v0 + v1) + v2) + v3) + v4) + v5)), .second, .val (.long (((((s0 + s1) + s2) + s3) + s4) + s5)), .second, .val (.ref bo), .unset, .unset, .unset, .unset] [(.double g1)])) _
      refine XS.iload X457.here hx rfl (hb hby at_579) rfl ?_
      show Steps p.tables e below (T457.setTop (mkF m 581 #[.val (.int p1), .val (.long p2), .second, .val (.long p3), .second, .val (.long p4), .second, .val (.int sl), .val (.ref b1), .val (.ref b2), .val (.int mm), .val (.int kk), .val (.int nm), .val (.int qq), .val (.int x1), .val (.int x2), .val (.int y1), .val (.int y2), .val (.int z1), .val (.int z2), .val (.ref oa), .val (.ref ob), .val (.ref oc), .val (.ref oa), .val (.ref oa), .val (.int tt), .val (.long (((((v0 + v1) + v2) + v3) + v4) + v5)), .second, .val (.long (((((s0 + s1) + s2) + s3) + s4) + s5)), .second, .val (.ref bo), .unset, .unset, .unset, .unset] [(.int tt), (.double g1)])) _
      refine XS.i2dS X457.here hx rfl (hb hby at_581) rfl rfl ?_
      show Steps p.tables e below (T457.setTop (mkF m 582 #[.val (.int p1), .val (.long p2), .second, .val (.long p3), .second, .val (.long p4), .second, .val (.int sl), .val (.ref b1), .val (.ref b2), .val (.int mm), .val (.int kk), .val (.int nm), .val (.int qq), .val (.int x1), .val (.int x2), .val (.int y1), .val (.int y2), .val (.int z1), .val (.int z2), .val (.ref oa), .val (.ref ob), .val (.ref oc), .val (.ref oa), .val (.ref oa), .val (.int tt), .val (.long (((((v0 + v1) + v2) + v3) + v4) + v5)), .second, .val (.long (((((s0 + s1) + s2) + s3) + s4) + s5)), .second, .val (.ref bo), .unset, .unset, .unset, .unset] [(.double (FP.i2d tt)), (.double g1)])) _
      refine XS.dmulS X457.here hx rfl (hb hby at_582) rfl (by rw [hg2]; exact yg2.noNaN) hg2 ?_
      show Steps p.tables e below (T457.setTop (mkF m 583 #[.val (.int p1), .val (.long p2), .second, .val (.long p3), .second, .val (.long p4), .second, .val (.int sl), .val (.ref b1), .val (.ref b2), .val (.int mm), .val (.int kk), .val (.int nm), .val (.int qq), .val (.int x1), .val (.int x2), .val (.int y1), .val (.int y2), .val (.int z1), .val (.int z2), .val (.ref oa), .val (.ref ob), .val (.ref oc), .val (.ref oa), .val (.ref oa), .val (.int tt), .val (.long (((((v0 + v1) + v2) + v3) + v4) + v5)), .second, .val (.long (((((s0 + s1) + s2) + s3) + s4) + s5)), .second, .val (.ref bo), .unset, .unset, .unset, .unset] [(.double g2)])) _
      refine XS.dstore X457.here hx rfl (hb hby at_583) rfl (l' := #[.val (.int p1), .val (.long p2), .second, .val (.long p3), .second, .val (.long p4), .second, .val (.int sl), .val (.ref b1), .val (.ref b2), .val (.int mm), .val (.int kk), .val (.int nm), .val (.int qq), .val (.int x1), .val (.int x2), .val (.int y1), .val (.int y2), .val (.int z1), .val (.int z2), .val (.ref oa), .val (.ref ob), .val (.ref oc), .val (.ref oa), .val (.ref oa), .val (.int tt), .val (.long (((((v0 + v1) + v2) + v3) + v4) + v5)), .second, .val (.long (((((s0 + s1) + s2) + s3) + s4) + s5)), .second, .val (.ref bo), .val (.double g2), .second, .unset, .unset]) rfl ?_
      show Steps p.tables e below (T457.setTop (mkF m 585 #[.val (.int p1), .val (.long p2), .second, .val (.long p3), .second, .val (.long p4), .second, .val (.int sl), .val (.ref b1), .val (.ref b2), .val (.int mm), .val (.int kk), .val (.int nm), .val (.int qq), .val (.int x1), .val (.int x2), .val (.int y1), .val (.int y2), .val (.int z1), .val (.int z2), .val (.ref oa), .val (.ref ob), .val (.ref oc), .val (.ref oa), .val (.ref oa), .val (.int tt), .val (.long (((((v0 + v1) + v2) + v3) + v4) + v5)), .second, .val (.long (((((s0 + s1) + s2) + s3) + s4) + s5)), .second, .val (.ref bo), .val (.double g2), .second, .unset, .unset] [])) _
      refine XS.iload X457.here hx rfl (hb hby at_585) rfl ?_
      show Steps p.tables e below (T457.setTop (mkF m 587 #[.val (.int p1), .val (.long p2), .second, .val (.long p3), .second, .val (.long p4), .second, .val (.int sl), .val (.ref b1), .val (.ref b2), .val (.int mm), .val (.int kk), .val (.int nm), .val (.int qq), .val (.int x1), .val (.int x2), .val (.int y1), .val (.int y2), .val (.int z1), .val (.int z2), .val (.ref oa), .val (.ref ob), .val (.ref oc), .val (.ref oa), .val (.ref oa), .val (.int tt), .val (.long (((((v0 + v1) + v2) + v3) + v4) + v5)), .second, .val (.long (((((s0 + s1) + s2) + s3) + s4) + s5)), .second, .val (.ref bo), .val (.double g2), .second, .unset, .unset] [(.int tt)])) _
      refine XS.i2l X457.here hx rfl (hb hby at_587) rfl ?_
      show Steps p.tables e below (T457.setTop (mkF m 588 #[.val (.int p1), .val (.long p2), .second, .val (.long p3), .second, .val (.long p4), .second, .val (.int sl), .val (.ref b1), .val (.ref b2), .val (.int mm), .val (.int kk), .val (.int nm), .val (.int qq), .val (.int x1), .val (.int x2), .val (.int y1), .val (.int y2), .val (.int z1), .val (.int z2), .val (.ref oa), .val (.ref ob), .val (.ref oc), .val (.ref oa), .val (.ref oa), .val (.int tt), .val (.long (((((v0 + v1) + v2) + v3) + v4) + v5)), .second, .val (.long (((((s0 + s1) + s2) + s3) + s4) + s5)), .second, .val (.ref bo), .val (.double g2), .second, .unset, .unset] [(.long (tt.toInt64))])) _
      refine XS.lload X457.here hx rfl (hb hby at_588) rfl ?_
      show Steps p.tables e below (T457.setTop (mkF m 590 #[.val (.int p1), .val (.long p2), .second, .val (.long p3), .second, .val (.long p4), .second, .val (.int sl), .val (.ref b1), .val (.ref b2), .val (.int mm), .val (.int kk), .val (.int nm), .val (.int qq), .val (.int x1), .val (.int x2), .val (.int y1), .val (.int y2), .val (.int z1), .val (.int z2), .val (.ref oa), .val (.ref ob), .val (.ref oc), .val (.ref oa), .val (.ref oa), .val (.int tt), .val (.long (((((v0 + v1) + v2) + v3) + v4) + v5)), .second, .val (.long (((((s0 + s1) + s2) + s3) + s4) + s5)), .second, .val (.ref bo), .val (.double g2), .second, .unset, .unset] [(.long (((((s0 + s1) + s2) + s3) + s4) + s5)), (.long (tt.toInt64))])) _
      refine XS.lmul X457.here hx rfl (hb hby at_590) rfl ?_
      show Steps p.tables e below (T457.setTop (mkF m 591 #[.val (.int p1), .val (.long p2), .second, .val (.long p3), .second, .val (.long p4), .second, .val (.int sl), .val (.ref b1), .val (.ref b2), .val (.int mm), .val (.int kk), .val (.int nm), .val (.int qq), .val (.int x1), .val (.int x2), .val (.int y1), .val (.int y2), .val (.int z1), .val (.int z2), .val (.ref oa), .val (.ref ob), .val (.ref oc), .val (.ref oa), .val (.ref oa), .val (.int tt), .val (.long (((((v0 + v1) + v2) + v3) + v4) + v5)), .second, .val (.long (((((s0 + s1) + s2) + s3) + s4) + s5)), .second, .val (.ref bo), .val (.double g2), .second, .unset, .unset] [(.long ((tt.toInt64) * (((((s0 + s1) + s2) + s3) + s4) + s5)))])) _
      refine XS.lload X457.here hx rfl (hb hby at_591) rfl ?_
      show Steps p.tables e below (T457.setTop (mkF m 593 #[.val (.int p1), .val (.long p2), .second, .val (.long p3), .second, .val (.long p4), .second, .val (.int sl), .val (.ref b1), .val (.ref b2), .val (.int mm), .val (.int kk), .val (.int nm), .val (.int qq), .val (.int x1), .val (.int x2), .val (.int y1), .val (.int y2), .val (.int z1), .val (.int z2), .val (.ref oa), .val (.ref ob), .val (.ref oc), .val (.ref oa), .val (.ref oa), .val (.int tt), .val (.long (((((v0 + v1) + v2) + v3) + v4) + v5)), .second, .val (.long (((((s0 + s1) + s2) + s3) + s4) + s5)), .second, .val (.ref bo), .val (.double g2), .second, .unset, .unset] [(.long (((((v0 + v1) + v2) + v3) + v4) + v5)), (.long ((tt.toInt64) * (((((s0 + s1) + s2) + s3) + s4) + s5)))])) _
      refine XS.lload X457.here hx rfl (hb hby at_593) rfl ?_
      show Steps p.tables e below (T457.setTop (mkF m 595 #[.val (.int p1), .val (.long p2), .second, .val (.long p3), .second, .val (.long p4), .second, .val (.int sl), .val (.ref b1), .val (.ref b2), .val (.int mm), .val (.int kk), .val (.int nm), .val (.int qq), .val (.int x1), .val (.int x2), .val (.int y1), .val (.int y2), .val (.int z1), .val (.int z2), .val (.ref oa), .val (.ref ob), .val (.ref oc), .val (.ref oa), .val (.ref oa), .val (.int tt), .val (.long (((((v0 + v1) + v2) + v3) + v4) + v5)), .second, .val (.long (((((s0 + s1) + s2) + s3) + s4) + s5)), .second, .val (.ref bo), .val (.double g2), .second, .unset, .unset] [(.long (((((v0 + v1) + v2) + v3) + v4) + v5)), (.long (((((v0 + v1) + v2) + v3) + v4) + v5)), (.long ((tt.toInt64) * (((((s0 + s1) + s2) + s3) + s4) + s5)))])) _
      refine XS.lmul X457.here hx rfl (hb hby at_595) rfl ?_
      show Steps p.tables e below (T457.setTop (mkF m 596 #[.val (.int p1), .val (.long p2), .second, .val (.long p3), .second, .val (.long p4), .second, .val (.int sl), .val (.ref b1), .val (.ref b2), .val (.int mm), .val (.int kk), .val (.int nm), .val (.int qq), .val (.int x1), .val (.int x2), .val (.int y1), .val (.int y2), .val (.int z1), .val (.int z2), .val (.ref oa), .val (.ref ob), .val (.ref oc), .val (.ref oa), .val (.ref oa), .val (.int tt), .val (.long (((((v0 + v1) + v2) + v3) + v4) + v5)), .second, .val (.long (((((s0 + s1) + s2) + s3) + s4) + s5)), .second, .val (.ref bo), .val (.double g2), .second, .unset, .unset] [(.long ((((((v0 + v1) + v2) + v3) + v4) + v5) * (((((v0 + v1) + v2) + v3) + v4) + v5))), (.long ((tt.toInt64) * (((((s0 + s1) + s2) + s3) + s4) + s5)))])) _
      refine XS.lsub X457.here hx rfl (hb hby at_596) rfl ?_
      show Steps p.tables e below (T457.setTop (mkF m 597 #[.val (.int p1), .val (.long p2), .second, .val (.long p3), .second, .val (.long p4), .second, .val (.int sl), .val (.ref b1), .val (.ref b2), .val (.int mm), .val (.int kk), .val (.int nm), .val (.int qq), .val (.int x1), .val (.int x2), .val (.int y1), .val (.int y2), .val (.int z1), .val (.int z2), .val (.ref oa), .val (.ref ob), .val (.ref oc), .val (.ref oa), .val (.ref oa), .val (.int tt), .val (.long (((((v0 + v1) + v2) + v3) + v4) + v5)), .second, .val (.long (((((s0 + s1) + s2) + s3) + s4) + s5)), .second, .val (.ref bo), .val (.double g2), .second, .unset, .unset] [(.long (((tt.toInt64) * (((((s0 + s1) + s2) + s3) + s4) + s5)) - ((((((v0 + v1) + v2) + v3) + v4) + v5) * (((((v0 + v1) + v2) + v3) + v4) + v5))))])) _
      refine XS.lstore X457.here hx rfl (hb hby at_597) rfl (l' := #[.val (.int p1), .val (.long p2), .second, .val (.long p3), .second, .val (.long p4), .second, .val (.int sl), .val (.ref b1), .val (.ref b2), .val (.int mm), .val (.int kk), .val (.int nm), .val (.int qq), .val (.int x1), .val (.int x2), .val (.int y1), .val (.int y2), .val (.int z1), .val (.int z2), .val (.ref oa), .val (.ref ob), .val (.ref oc), .val (.ref oa), .val (.ref oa), .val (.int tt), .val (.long (((((v0 + v1) + v2) + v3) + v4) + v5)), .second, .val (.long (((((s0 + s1) + s2) + s3) + s4) + s5)), .second, .val (.ref bo), .val (.double g2), .second, .val (.long (((tt.toInt64) * (((((s0 + s1) + s2) + s3) + s4) + s5)) - ((((((v0 + v1) + v2) + v3) + v4) + v5) * (((((v0 + v1) + v2) + v3) + v4) + v5)))), .second]) rfl ?_
      show Steps p.tables e below (T457.setTop (mkF m 599 #[.val (.int p1), .val (.long p2), .second, .val (.long p3), .second, .val (.long p4), .second, .val (.int sl), .val (.ref b1), .val (.ref b2), .val (.int mm), .val (.int kk), .val (.int nm), .val (.int qq), .val (.int x1), .val (.int x2), .val (.int y1), .val (.int y2), .val (.int z1), .val (.int z2), .val (.ref oa), .val (.ref ob), .val (.ref oc), .val (.ref oa), .val (.ref oa), .val (.int tt), .val (.long (((((v0 + v1) + v2) + v3) + v4) + v5)), .second, .val (.long (((((s0 + s1) + s2) + s3) + s4) + s5)), .second, .val (.ref bo), .val (.double g2), .second, .val (.long (((tt.toInt64) * (((((s0 + s1) + s2) + s3) + s4) + s5)) - ((((((v0 + v1) + v2) + v3) + v4) + v5) * (((((v0 + v1) + v2) + v3) + v4) + v5)))), .second] [])) _
      refine XS.dload X457.here hx rfl (hb hby at_599) rfl ?_
      show Steps p.tables e below (T457.setTop (mkF m 601 #[.val (.int p1), .val (.long p2), .second, .val (.long p3), .second, .val (.long p4), .second, .val (.int sl), .val (.ref b1), .val (.ref b2), .val (.int mm), .val (.int kk), .val (.int nm), .val (.int qq), .val (.int x1), .val (.int x2), .val (.int y1), .val (.int y2), .val (.int z1), .val (.int z2), .val (.ref oa), .val (.ref ob), .val (.ref oc), .val (.ref oa), .val (.ref oa), .val (.int tt), .val (.long (((((v0 + v1) + v2) + v3) + v4) + v5)), .second, .val (.long (((((s0 + s1) + s2) + s3) + s4) + s5)), .second, .val (.ref bo), .val (.double g2), .second, .val (.long (((tt.toInt64) * (((((s0 + s1) + s2) + s3) + s4) + s5)) - ((((((v0 + v1) + v2) + v3) + v4) + v5) * (((((v0 + v1) + v2) + v3) + v4) + v5)))), .second] [(.double g2)])) _
      refine XS.lload X457.here hx rfl (hb hby at_601) rfl ?_
      show Steps p.tables e below (T457.setTop (mkF m 603 #[.val (.int p1), .val (.long p2), .second, .val (.long p3), .second, .val (.long p4), .second, .val (.int sl), .val (.ref b1), .val (.ref b2), .val (.int mm), .val (.int kk), .val (.int nm), .val (.int qq), .val (.int x1), .val (.int x2), .val (.int y1), .val (.int y2), .val (.int z1), .val (.int z2), .val (.ref oa), .val (.ref ob), .val (.ref oc), .val (.ref oa), .val (.ref oa), .val (.int tt), .val (.long (((((v0 + v1) + v2) + v3) + v4) + v5)), .second, .val (.long (((((s0 + s1) + s2) + s3) + s4) + s5)), .second, .val (.ref bo), .val (.double g2), .second, .val (.long (((tt.toInt64) * (((((s0 + s1) + s2) + s3) + s4) + s5)) - ((((((v0 + v1) + v2) + v3) + v4) + v5) * (((((v0 + v1) + v2) + v3) + v4) + v5)))), .second] [(.long (((tt.toInt64) * (((((s0 + s1) + s2) + s3) + s4) + s5)) - ((((((v0 + v1) + v2) + v3) + v4) + v5) * (((((v0 + v1) + v2) + v3) + v4) + v5)))), (.double g2)])) _
      refine XS.l2dS X457.here hx rfl (hb hby at_603) rfl rfl ?_
      show Steps p.tables e below (T457.setTop (mkF m 604 #[.val (.int p1), .val (.long p2), .second, .val (.long p3), .second, .val (.long p4), .second, .val (.int sl), .val (.ref b1), .val (.ref b2), .val (.int mm), .val (.int kk), .val (.int nm), .val (.int qq), .val (.int x1), .val (.int x2), .val (.int y1), .val (.int y2), .val (.int z1), .val (.int z2), .val (.ref oa), .val (.ref ob), .val (.ref oc), .val (.ref oa), .val (.ref oa), .val (.int tt), .val (.long (((((v0 + v1) + v2) + v3) + v4) + v5)), .second, .val (.long (((((s0 + s1) + s2) + s3) + s4) + s5)), .second, .val (.ref bo), .val (.double g2), .second, .val (.long (((tt.toInt64) * (((((s0 + s1) + s2) + s3) + s4) + s5)) - ((((((v0 + v1) + v2) + v3) + v4) + v5) * (((((v0 + v1) + v2) + v3) + v4) + v5)))), .second] [(.double (FP.l2d (((tt.toInt64) * (((((s0 + s1) + s2) + s3) + s4) + s5)) - ((((((v0 + v1) + v2) + v3) + v4) + v5) * (((((v0 + v1) + v2) + v3) + v4) + v5))))), (.double g2)])) _
      refine XS.dcmpS X457.here hx rfl (hb hby at_604) rfl (show cmpValue (FP.dcmp g2 (FP.l2d (((tt.toInt64) * (((((s0 + s1) + s2) + s3) + s4) + s5)) - ((((((v0 + v1) + v2) + v3) + v4) + v5) * (((((v0 + v1) + v2) + v3) + v4) + v5))))) .l = (0 : Int32) from (by rw [yg2.cmpV (dy_l hwt bW4)]; simp)) ?_
      show Steps p.tables e below (T457.setTop (mkF m 605 #[.val (.int p1), .val (.long p2), .second, .val (.long p3), .second, .val (.long p4), .second, .val (.int sl), .val (.ref b1), .val (.ref b2), .val (.int mm), .val (.int kk), .val (.int nm), .val (.int qq), .val (.int x1), .val (.int x2), .val (.int y1), .val (.int y2), .val (.int z1), .val (.int z2), .val (.ref oa), .val (.ref ob), .val (.ref oc), .val (.ref oa), .val (.ref oa), .val (.int tt), .val (.long (((((v0 + v1) + v2) + v3) + v4) + v5)), .second, .val (.long (((((s0 + s1) + s2) + s3) + s4) + s5)), .second, .val (.ref bo), .val (.double g2), .second, .val (.long (((tt.toInt64) * (((((s0 + s1) + s2) + s3) + s4) + s5)) - ((((((v0 + v1) + v2) + v3) + v4) + v5) * (((((v0 + v1) + v2) + v3) + v4) + v5)))), .second] [(.int (0 : Int32))])) _
      refine XS.ifNo X457.here hx rfl (hb hby at_605) rfl ((if0 _ _).trans (teq rfl).2) ?_
      show Steps p.tables e below (T457.setTop (mkF m 608 #[.val (.int p1), .val (.long p2), .second, .val (.long p3), .second, .val (.long p4), .second, .val (.int sl), .val (.ref b1), .val (.ref b2), .val (.int mm), .val (.int kk), .val (.int nm), .val (.int qq), .val (.int x1), .val (.int x2), .val (.int y1), .val (.int y2), .val (.int z1), .val (.int z2), .val (.ref oa), .val (.ref ob), .val (.ref oc), .val (.ref oa), .val (.ref oa), .val (.int tt), .val (.long (((((v0 + v1) + v2) + v3) + v4) + v5)), .second, .val (.long (((((s0 + s1) + s2) + s3) + s4) + s5)), .second, .val (.ref bo), .val (.double g2), .second, .val (.long (((tt.toInt64) * (((((s0 + s1) + s2) + s3) + s4) + s5)) - ((((((v0 + v1) + v2) + v3) + v4) + v5) * (((((v0 + v1) + v2) + v3) + v4) + v5)))), .second] [])) _
      refine XS.iconst X457.here hx rfl (hb hby at_608) ?_
      show Steps p.tables e below (T457.setTop (mkF m 609 #[.val (.int p1), .val (.long p2), .second, .val (.long p3), .second, .val (.long p4), .second, .val (.int sl), .val (.ref b1), .val (.ref b2), .val (.int mm), .val (.int kk), .val (.int nm), .val (.int qq), .val (.int x1), .val (.int x2), .val (.int y1), .val (.int y2), .val (.int z1), .val (.int z2), .val (.ref oa), .val (.ref ob), .val (.ref oc), .val (.ref oa), .val (.ref oa), .val (.int tt), .val (.long (((((v0 + v1) + v2) + v3) + v4) + v5)), .second, .val (.long (((((s0 + s1) + s2) + s3) + s4) + s5)), .second, .val (.ref bo), .val (.double g2), .second, .val (.long (((tt.toInt64) * (((((s0 + s1) + s2) + s3) + s4) + s5)) - ((((((v0 + v1) + v2) + v3) + v4) + v5) * (((((v0 + v1) + v2) + v3) + v4) + v5)))), .second] [(.int (1 : Int32))])) _
      refine XS.goto X457.here hx rfl (pc0 := 609) (pc' := 613) rfl (hb hby at_609) (by decide) (by decide) ?_
      exact Steps.refl _
    obtain ⟨fs, hr, hrun, hended, hW, hsame⟩ := X457.leave (v := some (.int (1 : Int32))) (fun h => by rw [Bd.returns] at h; cases h)
    refine ⟨_, _, pre0 _ ?_, hrun, hended, _, _, rfl, ?_, ⟨_, rfl⟩, hW, hsame.mono (by decide) (by decide)⟩
    · rw [← hS0]
      refine r459.trans ?_
      show Steps p.tables e below (T457.setTop (mkF m 613 #[.val (.int p1), .val (.long p2), .second, .val (.long p3), .second, .val (.long p4), .second, .val (.int sl), .val (.ref b1), .val (.ref b2), .val (.int mm), .val (.int kk), .val (.int nm), .val (.int qq), .val (.int x1), .val (.int x2), .val (.int y1), .val (.int y2), .val (.int z1), .val (.int z2), .val (.ref oa), .val (.ref ob), .val (.ref oc), .val (.ref oa), .val (.ref oa), .val (.int tt), .val (.long (((((v0 + v1) + v2) + v3) + v4) + v5)), .second, .val (.long (((((s0 + s1) + s2) + s3) + s4) + s5)), .second, .val (.ref bo), .val (.double g2), .second, .val (.long (((tt.toInt64) * (((((s0 + s1) + s2) + s3) + s4) + s5)) - ((((((v0 + v1) + v2) + v3) + v4) + v5) * (((((v0 + v1) + v2) + v3) + v4) + v5)))), .second] [(.int (1 : Int32))])) _
      exact retB X457 hx Bd.returns (by first | exact Or.inr rfl | exact Or.inl rfl | (split <;> simp)) (hb hby at_613) hr
    · exact ⟨rfl, N457⟩
set_option maxRecDepth 65536 in
set_option maxHeartbeats 40000000 in
theorem comes_1 {Post : Tables → Env → Array Value → State → Outcome → State → Prop} (hpost : ∀ tb e args s v u, (limb_1_1.after args s (.returned v) u = true ∧ limb_1_2.after args s (.returned v) u = true ∧ True) → FrameEnd s (.returned v) u (Jvm.fieldLocs frame_1_writes args s ++ Jvm.arrayLocs frame_1_arrays args s ++ Jvm.staticLocs frame_1_statics s) 24 128 → Post tb e args s (.returned v) u) :
    ArmFor flags0 classFile x code maxLocals ret World_1 tables_1 room_1 Calls_1 rest_1 Pre_1 Post := by
  intro l hfl _ _ p e ha hc hk s m args below hf hA hF happ hP
  obtain ⟨hcalls, hrest, hpre⟩ := hP
  obtain ⟨-, -, -, hnamed, -, -, -, hat⟩ := (Spec.applies_iff hf).mp happ
  obtain ⟨hg, hn⟩ := and_e (Cond.before_iff.mp (show (Jvm.Cond.and given_1 narrow_1).before args s = true from hpre))
  obtain ⟨g0, hg⟩ := and_e hg
  obtain ⟨ga0, hg⟩ := and_e hg
  obtain ⟨ga1, hg⟩ := and_e hg
  obtain ⟨ga2, hg⟩ := and_e hg
  have ga3 := hg
  obtain ⟨w0, w1, w2, w3, rfl⟩ : ∃ w0 w1 w2 w3 : Value, args = #[w0, w1, w2, w3] := by
    have hs : args.size = 4 := by simpa [Cond.value, given_1] using g0
    obtain ⟨L⟩ := args
    match L, hs with
    | [w0, w1, w2, w3], _ => exact ⟨w0, w1, w2, w3, rfl⟩
  have hw := fun d (hd : d ∈ tables_1) => atoms_spec (ws := Jvm.Cond.code x code maxLocals ret :: tables_1) hat d (List.mem_cons_of_mem _ hd)
  have hfit : Fit s := fun {y c} hc i hi => by
    obtain ⟨ha, rfl⟩ := Array.getElem?_eq_some_iff.mp hc
    have q := List.all_eq_true.mp ((Array.all_eq_true_iff_forall_mem.mp hF) _ (Array.getElem_mem ha)) i (List.mem_range.mpr hi)
    simpa [Array.getElem?_eq_getElem hi] using q
  obtain ⟨hsets, hown0⟩ := atoms_of _ (rest_1_c_eq ▸ (show rest_1_c.before _ s = true from hrest))
  obtain ⟨i0, ei0⟩ := is_v ga0
  obtain rfl : w0 = (.int i0) := Option.some.inj ei0
  obtain ⟨i1, ei1⟩ := isL_v ga1
  obtain rfl : w1 = (.long i1) := Option.some.inj ei1
  obtain ⟨i2, ei2⟩ := isL_v ga2
  obtain rfl : w2 = (.long i2) := Option.some.inj ei2
  obtain ⟨i3, ei3⟩ := isL_v ga3
  obtain rfl : w3 = (.long i3) := Option.some.inj ei3
  obtain ⟨w, evw⟩ := exa_v (Cond.before_iff.mp (hsets _ (List.mem_of_getElem? (i := 2) rfl)))
  have Sw := Sta.start evw (Or.inl (hsets _ (List.mem_of_getElem? (i := 1) rfl)))
  have Ew := Exa.start evw (Cond.before_iff.mp (hsets _ (List.mem_of_getElem? (i := 2) rfl)))
  have Fw : Fld s s.heap w "java/util/OptionalDouble" "isPresent" "Z" (.int (0 : Int32)) := own_fw evw (Cond.before_iff.mp (hsets _ (List.mem_of_getElem? (i := 3) rfl)))
  obtain ⟨n, o, h1, h2, h3, _, L, rfl, ⟨rfl, N⟩, hq⟩ := rm0 l s _ hw tables_1 i0 i1 i2 i3 w s.heap s.heap.size (Nat.le_refl _) (Old.start s) Sw Ew Fw p e ha hc hk s m _ below hf ((Spec.applies_iff_loose hf).mp happ).1 ⟨rfl, State.Warmed39.refl s, rfl⟩ trivial
  refine ⟨n, _, h1, h2, h3, hpost _ _ _ _ _ _ ⟨Cond.after_iff.mpr rfl, Cond.after_iff.mpr (eq_i res_at (Term.int_eval (1)) rfl), trivial⟩ ⟨hq.1, hq.2.1, (hq.2.2.sift fun y hy => Or.inr (N y hy)).mono (by decide) (by decide)⟩⟩
theorem main_1_1 : Claimed_1_1 := comes_1 fun _ _ _ _ _ _ h hF => ⟨h.1, hF⟩
theorem main_1_2 : Claimed_1_2 := comes_1 fun _ _ _ _ _ _ h hF => ⟨h.2.1, hF⟩
end Jvm.Pilot.@@N@@
namespace Jvm.Pilot.@@N@@
open Jvm Jvm.ClassFile Sem Op Lib Jvm.Free Jvm.Stand Jvm.Pilot.@@N@@.Jvm.D
/-! MADE BY PROGRAM (witnessworld.py) out of the Statement's table words and the real class files: 10 classes; the members and pool entries that the words name. The judged class is class 1, her method 4. -/
namespace start1
open Jvm.ClassFile
def u (s : String) : CpInfo := .utf8 (stringToUtf16 s)
/-- a pool by its gaps: so many unusable entries, then the entry; so many at the end -/
def gap : Nat → List CpInfo → List CpInfo
  | 0, r => r
  | n + 1, r => .unusable :: gap n r
def poolList (es : List (Nat × CpInfo)) (last : Nat) : List CpInfo := es.foldr (fun e r => gap e.1 (e.2 :: r)) (gap last [])
def pool (es : List (Nat × CpInfo)) (last : Nat) : Array CpInfo := ⟨poolList es last⟩
def fileOf (pool : Array CpInfo) (this : Nat) (attrs : Array Attribute := #[]) (ms : Array MethodInfo := #[]) (fl : Nat := 33) (sup : Nat := 0) (ifs : Array Nat := #[]) (fds : Array FieldInfo := #[]) : ClassFile where
  minorVersion := 0
  majorVersion := 65
  constantPool := pool
  accessFlags := fl
  thisClass := this
  superClass := sup
  interfaces := ifs
  fields := fds
  methods := ms
  attributes := attrs
def plain (name : String) (sup : Option ClassId) : Class where
  name := name
  kind := .ordinary
  loader := none
  accessFlags := 33
  super := sup
  interfaces := #[]
  cf := none
  fields := #[]
  methods := #[]
  instanceTypes := #[]
  staticTypes := #[]
  resolved := #[]
  callSites := []
  init := .initialized
  statics := none
  mirror := none

def pool0 : Array CpInfo := pool [(5, u "<init>"), (0, u "()V"), (1, .class_ 10), (1, u "java/lang/Object")] 113

def k0c0 : Code := { maxStack := 0, maxLocals := 1, code := object_method_1_code, exceptionTable := #[], attributes := #[] }
def k0m0 : Method := { name := "<init>", desc := "()V", sig := { parameters := [], returnType := none }, accessFlags := 1, code := some k0c0 }
/-- java/lang/Object -/
def k0 : Class := { plain "java/lang/Object" none with
  accessFlags := 33
  interfaces := #[]
  cf := some (fileOf pool0 8 #[] #[{ accessFlags := 1, nameIndex := 5, descriptorIndex := 6, attributes := #[] }] 33 0 #[] #[])
  fields := #[]
  methods := #[k0m0]
  instanceTypes := #[]
  staticTypes := #[]
  resolved := Array.replicate 124 none
  statics := none }

def pool1 : Array CpInfo := pool [(2, .class_ 4), (0, .nameAndType 5 6), (0, u "java/lang/Object"), (0, u "<init>"), (0, u "()V"), (0, .integer 2147483647), (0, .methodref 9 10), (0, .class_ 11), (0, .nameAndType 12 13), (0, u "org/rowfold/aggregate/MomentsCombinePinLaw"), (0, u "small"), (0, u "(I)I"), (0, .class_ 15), (0, u "org/rowfold/aggregate/Moments"), (0, .methodref 14 3), (0, .methodref 14 18), (0, .nameAndType 19 20), (0, u "add"), (0, u "(D)V"), (0, .methodref 14 22), (0, .nameAndType 23 24), (0, u "combine"), (0, u "(Lorg/rowfold/aggregate/Moments;)Lorg/rowfold/aggregate/Moments;"), (0, .methodref 9 26), (0, .nameAndType 27 28), (0, u "val"), (0, u "(ZI)J"), (0, .methodref 9 30), (0, .nameAndType 31 28), (0, u "sqr"), (0, .methodref 14 33), (0, .nameAndType 34 35), (0, u "variance"), (0, u "(Z)Ljava/util/OptionalDouble;"), (0, .methodref 37 38), (0, .class_ 39), (0, .nameAndType 40 41), (0, u "java/util/OptionalDouble"), (0, u "isPresent"), (0, u "()Z"), (0, .methodref 37 43), (0, .nameAndType 44 45), (0, u "getAsDouble"), (0, u "()D"), (3, u "law"), (0, u "(IJJJ)Z")] 4

def k1m0 : Method := { name := "<init>", desc := "()V", sig := { parameters := [], returnType := none }, accessFlags := 1, code := none }
def k1c1 : Code := { maxStack := 2, maxLocals := 1, code := method_2_code, exceptionTable := #[], attributes := #[] }
def k1m1 : Method := { name := "small", desc := "(I)I", sig := { parameters := [.int], returnType := some .int }, accessFlags := 10, code := some k1c1 }
def k1c2 : Code := { maxStack := 2, maxLocals := 2, code := method_3_code, exceptionTable := #[], attributes := #[] }
def k1m2 : Method := { name := "val", desc := "(ZI)J", sig := { parameters := [.boolean, .int], returnType := some .long }, accessFlags := 10, code := some k1c2 }
def k1c3 : Code := { maxStack := 4, maxLocals := 2, code := method_4_code, exceptionTable := #[], attributes := #[] }
def k1m3 : Method := { name := "sqr", desc := "(ZI)J", sig := { parameters := [.boolean, .int], returnType := some .long }, accessFlags := 10, code := some k1c3 }
def k1c4 : Code := { maxStack := 6, maxLocals := 35, code := code, exceptionTable := #[], attributes := #[] }
def k1m4 : Method := { name := "law", desc := "(IJJJ)Z", sig := { parameters := [.int, .long, .long, .long], returnType := some .boolean }, accessFlags := 9, code := some k1c4 }
/-- org/rowfold/aggregate/MomentsCombinePinLaw -/
def k1 : Class := { plain "org/rowfold/aggregate/MomentsCombinePinLaw" (some 0) with
  accessFlags := 49
  interfaces := #[]
  cf := some (fileOf pool1 9 #[] #[{ accessFlags := 1, nameIndex := 5, descriptorIndex := 6, attributes := #[] }, { accessFlags := 10, nameIndex := 12, descriptorIndex := 13, attributes := #[] }, { accessFlags := 10, nameIndex := 27, descriptorIndex := 28, attributes := #[] }, { accessFlags := 10, nameIndex := 31, descriptorIndex := 28, attributes := #[] }, { accessFlags := 9, nameIndex := 49, descriptorIndex := 50, attributes := #[] }] 49 2 #[] #[])
  fields := #[]
  methods := #[k1m0, k1m1, k1m2, k1m3, k1m4]
  instanceTypes := #[]
  staticTypes := #[]
  resolved := Array.replicate 55 none
  statics := none }

def pool2 : Array CpInfo := pool [(1, .methodref 2 3), (0, .class_ 4), (0, .nameAndType 5 6), (0, u "java/lang/Object"), (0, u "<init>"), (0, u "()V"), (0, .fieldref 8 9), (0, .class_ 10), (0, .nameAndType 11 12), (0, u "org/rowfold/aggregate/Moments"), (0, u "count"), (0, u "J"), (0, .fieldref 8 14), (0, .nameAndType 15 16), (0, u "mean"), (0, u "D"), (0, .fieldref 8 18), (0, .nameAndType 19 16), (0, u "squares"), (0, .methodref 21 22), (0, .class_ 23), (0, .nameAndType 24 25), (0, u "java/util/OptionalDouble"), (0, u "empty"), (0, u "()Ljava/util/OptionalDouble;"), (0, .methodref 21 27), (0, .nameAndType 28 29), (0, u "of"), (0, u "(D)Ljava/util/OptionalDouble;"), (2, u "add"), (0, u "(D)V"), (0, u "combine"), (0, u "(Lorg/rowfold/aggregate/Moments;)Lorg/rowfold/aggregate/Moments;"), (1, u "variance"), (0, u "(Z)Ljava/util/OptionalDouble;")] 2

def k2c0 : Code := { maxStack := 1, maxLocals := 1, code := prog_6_method_1_code, exceptionTable := #[], attributes := #[] }
def k2m0 : Method := { name := "<init>", desc := "()V", sig := { parameters := [], returnType := none }, accessFlags := 0, code := some k2c0 }
def k2c1 : Code := { maxStack := 9, maxLocals := 5, code := prog_6_method_2_code, exceptionTable := #[], attributes := #[] }
def k2m1 : Method := { name := "add", desc := "(D)V", sig := { parameters := [.double], returnType := none }, accessFlags := 0, code := some k2c1 }
def k2c2 : Code := { maxStack := 11, maxLocals := 6, code := prog_6_method_3_code, exceptionTable := #[], attributes := #[] }
def k2m2 : Method := { name := "combine", desc := "(Lorg/rowfold/aggregate/Moments;)Lorg/rowfold/aggregate/Moments;", sig := { parameters := [(.object "org/rowfold/aggregate/Moments")], returnType := some (.object "org/rowfold/aggregate/Moments") }, accessFlags := 0, code := some k2c2 }
def k2c3 : Code := { maxStack := 4, maxLocals := 4, code := prog_6_method_4_code, exceptionTable := #[], attributes := #[] }
def k2m3 : Method := { name := "variance", desc := "(Z)Ljava/util/OptionalDouble;", sig := { parameters := [.boolean], returnType := some (.object "java/util/OptionalDouble") }, accessFlags := 0, code := some k2c3 }
/-- org/rowfold/aggregate/Moments -/
def k2 : Class := { plain "org/rowfold/aggregate/Moments" (some 0) with
  accessFlags := 48
  interfaces := #[]
  cf := some (fileOf pool2 8 #[] #[{ accessFlags := 0, nameIndex := 5, descriptorIndex := 6, attributes := #[] }, { accessFlags := 0, nameIndex := 32, descriptorIndex := 33, attributes := #[] }, { accessFlags := 0, nameIndex := 34, descriptorIndex := 35, attributes := #[] }, { accessFlags := 0, nameIndex := 37, descriptorIndex := 38, attributes := #[] }] 48 2 #[] #[{ accessFlags := 2, nameIndex := 11, descriptorIndex := 12, attributes := #[] }, { accessFlags := 2, nameIndex := 15, descriptorIndex := 16, attributes := #[] }, { accessFlags := 2, nameIndex := 19, descriptorIndex := 16, attributes := #[] }])
  fields := #[{ name := "count", type := .long, accessFlags := 2, slot := 0, constantValue := 0 }, { name := "mean", type := .double, accessFlags := 2, slot := 1, constantValue := 0 }, { name := "squares", type := .double, accessFlags := 2, slot := 2, constantValue := 0 }]
  methods := #[k2m0, k2m1, k2m2, k2m3]
  instanceTypes := #[.long, .double, .double]
  staticTypes := #[]
  resolved := Array.replicate 41 none
  statics := none }

def pool3 : Array CpInfo := pool [(1, .methodref 2 3), (0, .class_ 4), (0, .nameAndType 5 6), (0, u "java/lang/Object"), (0, u "<init>"), (0, u "()V"), (0, .fieldref 8 9), (0, .class_ 10), (0, .nameAndType 11 12), (0, u "java/util/OptionalDouble"), (0, u "isPresent"), (0, u "Z"), (4, .fieldref 8 18), (0, .nameAndType 19 20), (0, u "value"), (0, u "D"), (0, .fieldref 8 22), (0, .nameAndType 23 24), (0, u "EMPTY"), (0, u "Ljava/util/OptionalDouble;"), (0, .methodref 8 26), (0, .nameAndType 5 27), (0, u "(D)V"), (21, u "of"), (3, u "empty"), (5, u "getAsDouble"), (0, u "()D"), (41, u "()Ljava/util/OptionalDouble;"), (0, u "(D)Ljava/util/OptionalDouble;"), (1, u "()Z")] 38

def k3m0 : Method := { name := "<init>", desc := "()V", sig := { parameters := [], returnType := none }, accessFlags := 2, code := none }
def k3c1 : Code := { maxStack := 1, maxLocals := 0, code := jdk_2648_method_2_code, exceptionTable := #[], attributes := #[] }
def k3m1 : Method := { name := "empty", desc := "()Ljava/util/OptionalDouble;", sig := { parameters := [], returnType := some (.object "java/util/OptionalDouble") }, accessFlags := 9, code := some k3c1 }
def k3c2 : Code := { maxStack := 3, maxLocals := 3, code := jdk_2648_method_3_code, exceptionTable := #[], attributes := #[] }
def k3m2 : Method := { name := "<init>", desc := "(D)V", sig := { parameters := [.double], returnType := none }, accessFlags := 2, code := some k3c2 }
def k3c3 : Code := { maxStack := 4, maxLocals := 2, code := jdk_2648_method_4_code, exceptionTable := #[], attributes := #[] }
def k3m3 : Method := { name := "of", desc := "(D)Ljava/util/OptionalDouble;", sig := { parameters := [.double], returnType := some (.object "java/util/OptionalDouble") }, accessFlags := 9, code := some k3c3 }
def k3c4 : Code := { maxStack := 3, maxLocals := 1, code := jdk_2648_method_5_code, exceptionTable := #[], attributes := #[] }
def k3m4 : Method := { name := "getAsDouble", desc := "()D", sig := { parameters := [], returnType := some .double }, accessFlags := 1, code := some k3c4 }
def k3c5 : Code := { maxStack := 1, maxLocals := 1, code := jdk_2648_method_6_code, exceptionTable := #[], attributes := #[] }
def k3m5 : Method := { name := "isPresent", desc := "()Z", sig := { parameters := [], returnType := some .boolean }, accessFlags := 1, code := some k3c5 }
/-- java/util/OptionalDouble -/
def k3 : Class := { plain "java/util/OptionalDouble" (some 0) with
  accessFlags := 49
  interfaces := #[]
  cf := some (fileOf pool3 8 #[] #[{ accessFlags := 2, nameIndex := 5, descriptorIndex := 6, attributes := #[] }, { accessFlags := 9, nameIndex := 53, descriptorIndex := 102, attributes := #[] }, { accessFlags := 2, nameIndex := 5, descriptorIndex := 27, attributes := #[] }, { accessFlags := 9, nameIndex := 49, descriptorIndex := 103, attributes := #[] }, { accessFlags := 1, nameIndex := 59, descriptorIndex := 60, attributes := #[] }, { accessFlags := 1, nameIndex := 11, descriptorIndex := 105, attributes := #[] }] 49 2 #[] #[{ accessFlags := 26, nameIndex := 23, descriptorIndex := 24, attributes := #[] }, { accessFlags := 18, nameIndex := 11, descriptorIndex := 12, attributes := #[] }, { accessFlags := 18, nameIndex := 19, descriptorIndex := 20, attributes := #[] }])
  fields := #[{ name := "EMPTY", type := (.object "java/util/OptionalDouble"), accessFlags := 26, slot := 0, constantValue := 0 }, { name := "isPresent", type := .boolean, accessFlags := 18, slot := 0, constantValue := 0 }, { name := "value", type := .double, accessFlags := 18, slot := 1, constantValue := 0 }]
  methods := #[k3m0, k3m1, k3m2, k3m3, k3m4, k3m5]
  instanceTypes := #[.boolean, .double]
  staticTypes := #[(.object "java/util/OptionalDouble")]
  resolved := Array.replicate 144 none
  statics := some 0 }

def pool4 : Array CpInfo := pool [(1, u "java/lang/Cloneable"), (0, .class_ 1), (0, u "java/lang/Object"), (0, .class_ 3)] 3

/-- java/lang/Cloneable -/
def k4 : Class := { plain "java/lang/Cloneable" (some 0) with
  accessFlags := 1537
  interfaces := #[]
  cf := some (fileOf pool4 2 #[] #[] 1537 4 #[] #[])
  fields := #[]
  methods := #[]
  instanceTypes := #[]
  staticTypes := #[]
  resolved := Array.replicate 8 none
  statics := none }

def pool5 : Array CpInfo := pool [(1, u "java/io/Serializable"), (0, .class_ 1), (0, u "java/lang/Object"), (0, .class_ 3)] 3

/-- java/io/Serializable -/
def k5 : Class := { plain "java/io/Serializable" (some 0) with
  accessFlags := 1537
  interfaces := #[]
  cf := some (fileOf pool5 2 #[] #[] 1537 4 #[] #[])
  fields := #[]
  methods := #[]
  instanceTypes := #[]
  staticTypes := #[]
  resolved := Array.replicate 8 none
  statics := none }

/-- the primitive byte -/
def k6 : Class := { plain "byte" none with kind := .primitive 'B', accessFlags := 0x411 }
/-- [B -/
def k7 : Class := { plain "[B" (some 0) with kind := .array 6 .byte, interfaces := #[4, 5], accessFlags := 1041 }

/-- the primitive int -/
def k8 : Class := { plain "int" none with kind := .primitive 'I', accessFlags := 0x411 }
/-- [I -/
def k9 : Class := { plain "[I" (some 0) with kind := .array 8 .int, interfaces := #[4, 5], accessFlags := 1041 }

def heap : Heap := #[{ cls := 3, slots := #[.ref 1], vm := .statics 3 },
  { cls := 3, slots := #[.int 0, .double 0], vm := .none }]
def classes : Array Class := #[k0, k1, k2, k3, k4, k5, k6, k7, k8, k9]
def interned : List (Array UInt16 × Addr) := []
def slotsUsed : Nat := 3
def theMethod : MethodId := ⟨1, 4⟩
def args0 : Array Value := #[.int 5, .long 5, .long 5, .long 5]
def aboutOver (below : List Frame) : State where
  vm := { classes := classes, interned := interned.toArray }
  heap := heap
  slotsUsed := slotsUsed
  threads := #[{ frames := .invoking theMethod args0 :: below }]
def below0 : List Frame := [.native { method := ⟨0, 0⟩, args := #[] }]
def about1 : State := aboutOver below0
def p0 : Program := .bare "" "" ""
def e0 : Env := launch0.env 0 0 0
theorem w_frames : about1.frames = Frame.invoking theMethod args0 :: below0 := rfl
set_option maxRecDepth 65536 in
theorem w_args : argsFit about1.vm theMethod args0 = true := by decide +kernel
set_option maxRecDepth 65536 in
theorem w_heap : heapFits about1 = true := by decide +kernel
set_option maxRecDepth 65536 in
theorem w_runnable : about1.curStatus? = some .runnable := by decide +kernel
set_option maxRecDepth 65536 in
theorem w_alone : about1.alone = true := by decide +kernel
set_option maxRecDepth 65536 in
theorem w_named : about1.methodNamed? x = some theMethod := by decide +kernel
set_option maxRecDepth 65536 in
theorem w_hears : about1.hears theMethod below0 = true := by decide +kernel
set_option maxRecDepth 65536 in
theorem w_ripe : about1.ripe theMethod args0 below0 = true := by decide +kernel
theorem w_running : about1.status = .running := rfl
set_option maxRecDepth 65536 in
theorem w_room : about1.hasRoom e0.platform room_1 = true :=
  launch0.hasRoom_least _ room_1 (by decide +kernel) (by decide +kernel) (by decide +kernel) (by decide +kernel) (by decide +kernel) (by decide +kernel)
theorem allAtoms_all (ts : List Jvm.Cond) (a : Array Jvm.Value) (st : Jvm.State) : (allAtoms ts).before a st = ts.all (fun c => c.before a st) := by
  induction ts with
  | nil => rfl
  | cons c t ih =>
    show (Jvm.Cond.and c (allAtoms t)).before a st = _
    rw [Jvm.Cond.before_and, ih, List.all_cons]
def words1 : List Jvm.Cond := Jvm.Cond.code x code maxLocals ret :: tables_1
/-- a 'code' word, met by the world's own term for the bytes: nothing is compared byte by byte -/
theorem code_word {y : MethodName} {bytes : ByteArray} {mx : Nat} {rt : Option FieldType} {a : Array Value} {s : State} {m : MethodId} {meth : Method} {c : Code} (h1 : s.methodNamed? y = some m) (h2 : s.vm.method? m = some meth) (h3 : meth.code = some c) (h4 : c.code = bytes)
    (h5 : (c.maxLocals == mx && c.exceptionTable.isEmpty && decide (c.maxStack ≤ mostOperands) && decide (meth.sig.returnType = rt) && !meth.locks && decide (parseMethodDescriptor y.desc = some meth.sig)) = true) : (Jvm.Cond.code y bytes mx rt).before a s = true := by
  simp only [Bool.and_eq_true, beq_iff_eq, Bool.not_eq_true', decide_eq_true_eq] at h5
  obtain ⟨⟨⟨⟨⟨g1, g2⟩, g3⟩, g4⟩, g5⟩, g6⟩ := h5
  simp [Cond.before, Cond.holds, Cond.value, h1, h2, h3, h4, g1, g2, g3, g4, g5, g6]
def isCode : Jvm.Cond → Bool
  | .code _ _ _ _ => true
  | _ => false
theorem all_split {L : List Jvm.Cond} {P : Jvm.Cond → Bool} (h1 : L.all (fun c => isCode c || P c) = true) (h2 : ∀ c ∈ L.filter isCode, P c = true) : L.all P = true := by
  refine List.all_eq_true.mpr fun c hc => ?_
  have h := List.all_eq_true.mp h1 c hc
  rcases Bool.eq_false_or_eq_true (isCode c) with hi | hi
  · exact h2 c (List.mem_filter.mpr ⟨hc, hi⟩)
  · simpa [hi] using h
set_option maxRecDepth 65536 in
theorem w_c0 : (Jvm.Cond.code x code maxLocals ret).before args0 about1 = true := code_word (m := ⟨1, 4⟩) (meth := k1m4) (c := k1c4) (by decide +kernel) rfl rfl rfl (by decide +kernel)
set_option maxRecDepth 65536 in
theorem w_c1 : (Jvm.Cond.code ({ cls := "org/rowfold/aggregate/MomentsCombinePinLaw", name := "small", desc := "(I)I" } : Jvm.MethodName) method_2_code (1 : Nat) (Option.some Jvm.ClassFile.FieldType.int)).before args0 about1 = true := code_word (m := ⟨1, 1⟩) (meth := k1m1) (c := k1c1) (by decide +kernel) rfl rfl rfl (by decide +kernel)
set_option maxRecDepth 65536 in
theorem w_c2 : (Jvm.Cond.code ({ cls := "org/rowfold/aggregate/Moments", name := "<init>", desc := "()V" } : Jvm.MethodName) prog_6_method_1_code (1 : Nat) (Option.none : Option Jvm.ClassFile.FieldType)).before args0 about1 = true := code_word (m := ⟨2, 0⟩) (meth := k2m0) (c := k2c0) (by decide +kernel) rfl rfl rfl (by decide +kernel)
set_option maxRecDepth 65536 in
theorem w_c3 : (Jvm.Cond.code ({ cls := "java/lang/Object", name := "<init>", desc := "()V" } : Jvm.MethodName) object_method_1_code (1 : Nat) (Option.none : Option Jvm.ClassFile.FieldType)).before args0 about1 = true := code_word (m := ⟨0, 0⟩) (meth := k0m0) (c := k0c0) (by decide +kernel) rfl rfl rfl (by decide +kernel)
set_option maxRecDepth 65536 in
theorem w_c4 : (Jvm.Cond.code ({ cls := "org/rowfold/aggregate/Moments", name := "combine", desc := "(Lorg/rowfold/aggregate/Moments;)Lorg/rowfold/aggregate/Moments;" } : Jvm.MethodName) prog_6_method_3_code (6 : Nat) (Option.some (Jvm.ClassFile.FieldType.object "org/rowfold/aggregate/Moments"))).before args0 about1 = true := code_word (m := ⟨2, 2⟩) (meth := k2m2) (c := k2c2) (by decide +kernel) rfl rfl rfl (by decide +kernel)
set_option maxRecDepth 65536 in
theorem w_c5 : (Jvm.Cond.code ({ cls := "org/rowfold/aggregate/MomentsCombinePinLaw", name := "val", desc := "(ZI)J" } : Jvm.MethodName) method_3_code (2 : Nat) (Option.some Jvm.ClassFile.FieldType.long)).before args0 about1 = true := code_word (m := ⟨1, 2⟩) (meth := k1m2) (c := k1c2) (by decide +kernel) rfl rfl rfl (by decide +kernel)
set_option maxRecDepth 65536 in
theorem w_c6 : (Jvm.Cond.code ({ cls := "org/rowfold/aggregate/MomentsCombinePinLaw", name := "sqr", desc := "(ZI)J" } : Jvm.MethodName) method_4_code (2 : Nat) (Option.some Jvm.ClassFile.FieldType.long)).before args0 about1 = true := code_word (m := ⟨1, 3⟩) (meth := k1m3) (c := k1c3) (by decide +kernel) rfl rfl rfl (by decide +kernel)
set_option maxRecDepth 65536 in
theorem w_c7 : (Jvm.Cond.code ({ cls := "org/rowfold/aggregate/Moments", name := "variance", desc := "(Z)Ljava/util/OptionalDouble;" } : Jvm.MethodName) prog_6_method_4_code (4 : Nat) (Option.some (Jvm.ClassFile.FieldType.object "java/util/OptionalDouble"))).before args0 about1 = true := code_word (m := ⟨2, 3⟩) (meth := k2m3) (c := k2c3) (by decide +kernel) rfl rfl rfl (by decide +kernel)
set_option maxRecDepth 65536 in
theorem w_c8 : (Jvm.Cond.code ({ cls := "java/util/OptionalDouble", name := "empty", desc := "()Ljava/util/OptionalDouble;" } : Jvm.MethodName) jdk_2648_method_2_code (0 : Nat) (Option.some (Jvm.ClassFile.FieldType.object "java/util/OptionalDouble"))).before args0 about1 = true := code_word (m := ⟨3, 1⟩) (meth := k3m1) (c := k3c1) (by decide +kernel) rfl rfl rfl (by decide +kernel)
set_option maxRecDepth 65536 in
theorem w_c9 : (Jvm.Cond.code ({ cls := "java/util/OptionalDouble", name := "isPresent", desc := "()Z" } : Jvm.MethodName) jdk_2648_method_6_code (1 : Nat) (Option.some Jvm.ClassFile.FieldType.boolean)).before args0 about1 = true := code_word (m := ⟨3, 5⟩) (meth := k3m5) (c := k3c5) (by decide +kernel) rfl rfl rfl (by decide +kernel)
set_option maxRecDepth 65536 in
theorem w_c10 : (Jvm.Cond.code ({ cls := "org/rowfold/aggregate/Moments", name := "add", desc := "(D)V" } : Jvm.MethodName) prog_6_method_2_code (5 : Nat) (Option.none : Option Jvm.ClassFile.FieldType)).before args0 about1 = true := code_word (m := ⟨2, 1⟩) (meth := k2m1) (c := k2c1) (by decide +kernel) rfl rfl rfl (by decide +kernel)
set_option maxRecDepth 65536 in
theorem w_c11 : (Jvm.Cond.code ({ cls := "java/util/OptionalDouble", name := "of", desc := "(D)Ljava/util/OptionalDouble;" } : Jvm.MethodName) jdk_2648_method_4_code (2 : Nat) (Option.some (Jvm.ClassFile.FieldType.object "java/util/OptionalDouble"))).before args0 about1 = true := code_word (m := ⟨3, 3⟩) (meth := k3m3) (c := k3c3) (by decide +kernel) rfl rfl rfl (by decide +kernel)
set_option maxRecDepth 65536 in
theorem w_c12 : (Jvm.Cond.code ({ cls := "java/util/OptionalDouble", name := "<init>", desc := "(D)V" } : Jvm.MethodName) jdk_2648_method_3_code (3 : Nat) (Option.none : Option Jvm.ClassFile.FieldType)).before args0 about1 = true := code_word (m := ⟨3, 2⟩) (meth := k3m2) (c := k3c2) (by decide +kernel) rfl rfl rfl (by decide +kernel)
set_option maxRecDepth 65536 in
theorem w_c13 : (Jvm.Cond.code ({ cls := "java/util/OptionalDouble", name := "getAsDouble", desc := "()D" } : Jvm.MethodName) jdk_2648_method_5_code (1 : Nat) (Option.some Jvm.ClassFile.FieldType.double)).before args0 about1 = true := code_word (m := ⟨3, 4⟩) (meth := k3m4) (c := k3c4) (by decide +kernel) rfl rfl rfl (by decide +kernel)
def codes1 : List Jvm.Cond := [Jvm.Cond.code x code maxLocals ret, Jvm.Cond.code ({ cls := "org/rowfold/aggregate/MomentsCombinePinLaw", name := "small", desc := "(I)I" } : Jvm.MethodName) method_2_code (1 : Nat) (Option.some Jvm.ClassFile.FieldType.int), Jvm.Cond.code ({ cls := "org/rowfold/aggregate/Moments", name := "<init>", desc := "()V" } : Jvm.MethodName) prog_6_method_1_code (1 : Nat) (Option.none : Option Jvm.ClassFile.FieldType), Jvm.Cond.code ({ cls := "java/lang/Object", name := "<init>", desc := "()V" } : Jvm.MethodName) object_method_1_code (1 : Nat) (Option.none : Option Jvm.ClassFile.FieldType), Jvm.Cond.code ({ cls := "org/rowfold/aggregate/Moments", name := "combine", desc := "(Lorg/rowfold/aggregate/Moments;)Lorg/rowfold/aggregate/Moments;" } : Jvm.MethodName) prog_6_method_3_code (6 : Nat) (Option.some (Jvm.ClassFile.FieldType.object "org/rowfold/aggregate/Moments")), Jvm.Cond.code ({ cls := "org/rowfold/aggregate/MomentsCombinePinLaw", name := "val", desc := "(ZI)J" } : Jvm.MethodName) method_3_code (2 : Nat) (Option.some Jvm.ClassFile.FieldType.long), Jvm.Cond.code ({ cls := "org/rowfold/aggregate/MomentsCombinePinLaw", name := "sqr", desc := "(ZI)J" } : Jvm.MethodName) method_4_code (2 : Nat) (Option.some Jvm.ClassFile.FieldType.long), Jvm.Cond.code ({ cls := "org/rowfold/aggregate/Moments", name := "variance", desc := "(Z)Ljava/util/OptionalDouble;" } : Jvm.MethodName) prog_6_method_4_code (4 : Nat) (Option.some (Jvm.ClassFile.FieldType.object "java/util/OptionalDouble")), Jvm.Cond.code ({ cls := "java/util/OptionalDouble", name := "empty", desc := "()Ljava/util/OptionalDouble;" } : Jvm.MethodName) jdk_2648_method_2_code (0 : Nat) (Option.some (Jvm.ClassFile.FieldType.object "java/util/OptionalDouble")), Jvm.Cond.code ({ cls := "java/util/OptionalDouble", name := "isPresent", desc := "()Z" } : Jvm.MethodName) jdk_2648_method_6_code (1 : Nat) (Option.some Jvm.ClassFile.FieldType.boolean), Jvm.Cond.code ({ cls := "org/rowfold/aggregate/Moments", name := "add", desc := "(D)V" } : Jvm.MethodName) prog_6_method_2_code (5 : Nat) (Option.none : Option Jvm.ClassFile.FieldType), Jvm.Cond.code ({ cls := "java/util/OptionalDouble", name := "of", desc := "(D)Ljava/util/OptionalDouble;" } : Jvm.MethodName) jdk_2648_method_4_code (2 : Nat) (Option.some (Jvm.ClassFile.FieldType.object "java/util/OptionalDouble")), Jvm.Cond.code ({ cls := "java/util/OptionalDouble", name := "<init>", desc := "(D)V" } : Jvm.MethodName) jdk_2648_method_3_code (3 : Nat) (Option.none : Option Jvm.ClassFile.FieldType), Jvm.Cond.code ({ cls := "java/util/OptionalDouble", name := "getAsDouble", desc := "()D" } : Jvm.MethodName) jdk_2648_method_5_code (1 : Nat) (Option.some Jvm.ClassFile.FieldType.double)]
set_option maxRecDepth 65536 in
theorem codes_eq : words1.filter isCode = codes1 := rfl
theorem w_codes : ∀ c ∈ words1.filter isCode, c.before args0 about1 = true := by
  rw [codes_eq]
  intro c hc
  simp only [codes1, List.mem_cons, List.not_mem_nil, or_false] at hc
  rcases hc with rfl | rfl | rfl | rfl | rfl | rfl | rfl | rfl | rfl | rfl | rfl | rfl | rfl | rfl
  · exact w_c0
  · exact w_c1
  · exact w_c2
  · exact w_c3
  · exact w_c4
  · exact w_c5
  · exact w_c6
  · exact w_c7
  · exact w_c8
  · exact w_c9
  · exact w_c10
  · exact w_c11
  · exact w_c12
  · exact w_c13
set_option maxRecDepth 65536 in
theorem w_t1 : (words1.take 24).all (fun c => isCode c || c.before args0 about1) = true := by decide +kernel
set_option maxRecDepth 65536 in
theorem w_t2 : ((words1.drop 24).take 24).all (fun c => isCode c || c.before args0 about1) = true := by decide +kernel
set_option maxRecDepth 65536 in
theorem w_t3 : ((words1.drop 24).drop 24).all (fun c => isCode c || c.before args0 about1) = true := by decide +kernel
theorem w_tables : (allAtoms (Jvm.Cond.code x code maxLocals ret :: tables_1)).before args0 about1 = true := by
  rw [allAtoms_all]
  show words1.all (fun c => c.before args0 about1) = true
  refine all_split ?_ w_codes
  rw [← List.take_append_drop 24 words1, List.all_append, w_t1, ← List.take_append_drop 24 (words1.drop 24), List.all_append, w_t2, w_t3]
  rfl
set_option maxRecDepth 65536 in
theorem w_rest : rest_1_c.before args0 about1 = true := by decide +kernel
set_option maxRecDepth 65536 in
theorem w_case : (Jvm.Cond.and given_1 narrow_1).before args0 about1 = true := by decide +kernel
theorem w_applies : (headSpec (Jvm.Cond.code x code maxLocals ret :: tables_1) room_1).applies x e0.platform about1 = true :=
  (Spec.applies_iff w_frames).mpr ⟨w_running, w_runnable, w_alone, w_named, w_hears, w_ripe, w_room, w_tables⟩
theorem atStart : AtStart classFile x code maxLocals ret World_1 tables_1 room_1 Calls_1 rest_1 Pre_1 launch0 p0 e0 about1 theMethod args0 below0 :=
  ⟨lists_1, trivial, launch0.admits_env _ _ _, launch0.least_env, fairChoices_fair.cas, fairChoices_fair.clock, w_frames, w_args, w_heap, w_applies, trivial, w_rest, w_case⟩
end start1
theorem witness_1 : WitnessClaimed_1 := ⟨start1.p0, start1.e0, start1.about1, start1.theMethod, start1.args0, start1.below0, start1.atStart⟩
end Jvm.Pilot.@@N@@
