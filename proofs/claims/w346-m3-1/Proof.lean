import JvmDerived
import JvmDerived.Pilot.@@N@@Statement
import JvmDerived.Pilot.@@N@@Code
set_option linter.unusedVariables false
set_option linter.unusedSimpArgs false
namespace Jvm.OwnF
open Jvm.FP Jvm.Free.Fl
/-! Exact dyadic arithmetic on doubles: Dy i k u says that the double u is the number i / 2^k. -/
/-- the datum times 2^k -/
def sh (k : Int) : Core.Datum → Core.Datum
  | .nan => .nan
  | .inf s => .inf s
  | .fin s c q => .fin s c (q + k)
def Dy (i : Int) (k : Nat) (u : UInt64) : Prop := Core.Whole i (sh k (Core.val64 u))
theorem ifc3 {α : Type} {p q : Prop} [Decidable p] [Decidable q] {a b c d : α} (h : p ↔ q) (h1 : a = c) (h2 : b = d) : (if p then a else b) = (if q then c else d) := by
  subst h1 h2
  by_cases hp : p
  · rw [if_pos hp, if_pos (h.mp hp)]
  · rw [if_neg hp, if_neg (fun z => hp (h.mpr z))]
theorem mpos {a b : Int} (hb : 0 < b) : 0 < a * b ↔ 0 < a := by
  constructor
  · intro h
    refine Int.lt_of_not_ge fun hle => ?_
    have q := Int.mul_le_mul_of_nonneg_right hle (Int.le_of_lt hb)
    rw [Int.zero_mul] at q
    omega
  · intro h
    exact Int.mul_pos h hb
theorem sh_zero (d : Core.Datum) : sh ((0 : Nat) : Int) d = d := by
  cases d with
  | nan => rfl
  | inf s => rfl
  | fin s c q => show Core.Datum.fin s c (q + ((0 : Nat) : Int)) = _; rw [show q + ((0 : Nat) : Int) = q by omega]
theorem sh_neg (k : Int) (d : Core.Datum) : Core.negate (sh k d) = sh k (Core.negate d) := by cases d <;> rfl
theorem sh_sum (k : Int) (x y : Core.Datum) : Core.exactSum (sh k x) (sh k y) = sh k (Core.exactSum x y) := by
  cases x with
  | nan => cases y <;> rfl
  | inf s =>
    cases y with
    | nan => rfl
    | inf t => show (if s = t then Core.Datum.inf s else .nan) = sh k (if s = t then Core.Datum.inf s else .nan); split <;> rfl
    | fin t d r => rfl
  | fin s c q =>
    cases y with
    | nan => rfl
    | inf t => rfl
    | fin t d r =>
      have hm : min (q + k) (r + k) = min q r + k := by omega
      have hu : Core.sumUnits s c (q + k) t d (r + k) (min (q + k) (r + k)) = Core.sumUnits s c q t d r (min q r) := by
        rw [hm]
        unfold Core.sumUnits Core.inUnits
        rw [show q + k - (min q r + k) = q - min q r by omega, show r + k - (min q r + k) = r - min q r by omega]
      show Core.Datum.fin (Core.sumSign s t (Core.sumUnits s c (q + k) t d (r + k) (min (q + k) (r + k)))) (Core.sumUnits s c (q + k) t d (r + k) (min (q + k) (r + k))).natAbs (min (q + k) (r + k)) = Core.Datum.fin (Core.sumSign s t (Core.sumUnits s c q t d r (min q r))) (Core.sumUnits s c q t d r (min q r)).natAbs (min q r + k)
      rw [hu, hm]
theorem sh_prod (j k : Int) (x y : Core.Datum) : Core.exactProduct (sh j x) (sh k y) = sh (j + k) (Core.exactProduct x y) := by
  cases x with
  | nan => cases y <;> rfl
  | inf s =>
    cases y with
    | nan => rfl
    | inf t => rfl
    | fin t d r => show (if d = 0 then Core.Datum.nan else .inf (s != t)) = sh (j + k) (if d = 0 then Core.Datum.nan else .inf (s != t)); split <;> rfl
  | fin s c q =>
    cases y with
    | nan => rfl
    | inf t => show (if c = 0 then Core.Datum.nan else .inf (s != t)) = sh (j + k) (if c = 0 then Core.Datum.nan else .inf (s != t)); split <;> rfl
    | fin t d r => show Core.Datum.fin (s != t) (c * d) (q + j + (r + k)) = Core.Datum.fin (s != t) (c * d) (q + r + (j + k)); rw [show q + j + (r + k) = q + r + (j + k) by omega]
theorem sh_order (k : Int) (x y : Core.Datum) : Core.order (sh k x) (sh k y) = Core.order x y := by
  cases x with
  | nan => cases y <;> rfl
  | inf s => cases y <;> rfl
  | fin s c q =>
    cases y with
    | nan => rfl
    | inf t => rfl
    | fin t d r =>
      have hm : min (q + k) (r + k) = min q r + k := by omega
      show some (compare (Core.signed s (Core.inUnits c (q + k) (min (q + k) (r + k)))) (Core.signed t (Core.inUnits d (r + k) (min (q + k) (r + k))))) = some (compare (Core.signed s (Core.inUnits c q (min q r))) (Core.signed t (Core.inUnits d r (min q r))))
      unfold Core.inUnits
      rw [hm, show q + k - (min q r + k) = q - min q r by omega, show r + k - (min q r + k) = r - min q r by omega]
theorem sgn_whole {i : Int} {s : Bool} {c : Nat} {q : Int} (h : Core.Whole i (.fin s c q)) : Core.signed s i.natAbs = i := by
  by_cases hi0 : i = 0
  · rw [hi0]; exact Core.signed_zero s
  · rw [Core.whole_sign h hi0]
    unfold Core.signed
    by_cases h : i < 0 <;> simp [h] <;> omega
/-- n / 2^k, rounded, is exact -/
theorem ratio_exact (s : Bool) {n k : Nat} (hn : n ≤ 2 ^ 53) (hk : k ≤ 1000) : ∃ c q, Core.roundRatio Core.b64 s n 1 (-(k : Int)) = .fin s c q ∧ n * 2 ^ (-(q + k)).toNat = c * 2 ^ (q + k).toNat := by
  by_cases h0 : n = 0
  · subst h0
    exact ⟨0, Core.b64.qmin, rfl, by simp⟩
  · obtain ⟨c', q', hfit, hv⟩ := Core.natFit Core.good_b64 Core.wide_b64 s (n := n) hn
    obtain ⟨f1, f2, f3, f4⟩ := hfit
    have e53 : 2 ^ Core.b64.p = 9007199254740992 := by decide
    have hmin : Core.b64.qmin = -1074 := by decide
    rw [e53] at f1
    rw [Nat.mul_one] at hv
    have hq : -53 < q' := by
      refine Int.lt_of_not_ge fun hle => ?_
      rw [show (q' - 0).toNat = 0 by omega, Nat.pow_zero, Nat.mul_one] at hv
      have h1 : 2 ^ 53 ≤ 2 ^ (0 - q').toNat := Nat.pow_le_pow_right (by decide) (by omega)
      have h2 : 1 * 2 ^ (0 - q').toNat ≤ n * 2 ^ (0 - q').toNat := Nat.mul_le_mul_right _ (by omega)
      have h3 : (2 : Nat) ^ 53 = 9007199254740992 := by decide
      omega
    have ht : Core.b64.tails ≤ c' := f4.resolve_left (by omega)
    have hfit' : Core.fits Core.b64 (.fin s c' (q' - k)) := ⟨by rw [e53]; exact f1, by omega, by omega, Or.inr ht⟩
    refine ⟨c', q' - k, Core.roundRatio_exact Core.good_b64 (by decide) hfit' ?_, ?_⟩
    · rw [Nat.mul_one, show (-(k : Int) - (q' - k)).toNat = (0 - q').toNat by omega, show (q' - k - -(k : Int)).toNat = (q' - 0).toNat by omega]
      exact hv
    · rw [show (-(q' - (k : Int) + k)).toNat = (0 - q').toNat by omega, show (q' - (k : Int) + k).toNat = (q' - 0).toNat by omega]
      exact hv
theorem whole_ratio (s : Bool) {i : Int} {k : Nat} (hs : Core.signed s i.natAbs = i) (hi : i.natAbs ≤ 2 ^ 53) (hk : k ≤ 1000) : Core.Whole i (sh k (Core.roundRatio Core.b64 s i.natAbs 1 (-(k : Int)))) := by
  obtain ⟨c, q, e, hv⟩ := ratio_exact s hi hk
  rw [e]
  show Core.signed s (c * 2 ^ (q + (k : Int)).toNat) = i * ((2 ^ (-(q + (k : Int))).toNat : Nat) : Int)
  rw [← hv, Core.signed_mul, hs]
/-- what i / 2^k rounds to -/
theorem round_eq {i : Int} {k : Nat} {s : Bool} {c : Nat} {q : Int} (h : Core.Whole i (sh k (.fin s c q))) : Core.round Core.b64 (.fin s c q) = Core.roundRatio Core.b64 s i.natAbs 1 (-(k : Int)) := by
  refine Core.roundRatio_congr (by decide) (by decide) ?_
  have h1 := Core.whole_natAbs (show Core.Whole i (.fin s c (q + (k : Int))) from h)
  rw [show (q - -(k : Int)).toNat = (q + (k : Int)).toNat by omega, show (-(k : Int) - q).toNat = (-(q + (k : Int))).toNat by omega, Nat.mul_one, Nat.mul_one]
  exact h1
theorem round_dy {i : Int} {k : Nat} {d : Core.Datum} (h : Core.Whole i (sh k d)) (hi : i.natAbs ≤ 2 ^ 53) (hk : k ≤ 1000) : Core.Whole i (sh k (Core.round Core.b64 d)) := by
  cases d with
  | nan => exact h.elim
  | inf => exact h.elim
  | fin s c q =>
    rw [round_eq h]
    exact whole_ratio s (sgn_whole (show Core.Whole i (.fin s c (q + (k : Int))) from h)) hi hk
theorem Dy.shape {i : Int} {k : Nat} {u : UInt64} (h : Dy i k u) : ∃ s c q, Core.val64 u = .fin s c q := by
  unfold Dy at h
  cases e : Core.val64 u with
  | nan => rw [e] at h; exact h.elim
  | inf s => rw [e] at h; exact h.elim
  | fin s c q => exact ⟨s, c, q, rfl⟩
theorem Dy.ne_nan {i : Int} {k : Nat} {u : UInt64} (h : Dy i k u) : Core.val64 u ≠ .nan := by
  obtain ⟨s, c, q, e⟩ := h.shape
  rw [e]; exact nofun
theorem Dy.noNaN {i : Int} {k : Nat} {u : UInt64} (h : Dy i k u) : NoNaN64 u := val64_no.mpr h.ne_nan
theorem Dy.of_int {i : Int} {u : UInt64} (h : Core.DInt i u) : Dy i 0 u := by
  unfold Dy; rw [sh_zero]; exact h
theorem Dy.add {i j : Int} {k : Nat} {a b : UInt64} (ha : Dy i k a) (hb : Dy j k b) (h : (i + j).natAbs ≤ 2 ^ 53) (hk : k ≤ 1000) : Dy (i + j) k (FP.dadd a b) := by
  unfold Dy
  rw [show Core.val64 (FP.dadd a b) = _ from Core.val64_dadd a b]
  exact round_dy (by rw [← sh_sum]; exact Core.whole_sum ha hb) h hk
theorem Dy.sub {i j : Int} {k : Nat} {a b : UInt64} (ha : Dy i k a) (hb : Dy j k b) (h : (i - j).natAbs ≤ 2 ^ 53) (hk : k ≤ 1000) : Dy (i - j) k (FP.dsub a b) := by
  unfold Dy
  rw [show Core.val64 (FP.dsub a b) = _ from Core.val64_dsub a b]
  exact round_dy (by rw [← sh_sum, ← sh_neg]; exact Core.whole_sum ha (Core.whole_negate hb)) h hk
theorem Dy.mul {i j : Int} {k l : Nat} {a b : UInt64} (ha : Dy i k a) (hb : Dy j l b) (h : (i * j).natAbs ≤ 2 ^ 53) (hk : k + l ≤ 1000) : Dy (i * j) (k + l) (FP.dmul a b) := by
  unfold Dy
  rw [show Core.val64 (FP.dmul a b) = _ from Core.val64_dmul a b]
  exact round_dy (by rw [Int.natCast_add, ← sh_prod]; exact Core.whole_product ha hb) h hk
theorem Dy.cmp {i j : Int} {k : Nat} {a b : UInt64} (ha : Dy i k a) (hb : Dy j k b) : FP.dcmp a b = some (compare i j) := by
  show Core.order (Core.val64 a) (Core.val64 b) = _
  rw [← sh_order k]
  exact Core.order_whole ha hb
theorem Dy.scale {i : Int} {k : Nat} {a : UInt64} (ha : Dy i k a) (j : Nat) : Dy (i * (2 ^ j : Nat)) (k + j) a := by
  obtain ⟨s, c, q, e⟩ := ha.shape
  unfold Dy at ha ⊢
  rw [e] at ha ⊢
  have h1 : Core.Whole ((2 ^ j : Nat) : Int) (.fin false 1 (j : Int)) := by
    show Core.signed false (1 * 2 ^ ((j : Int)).toNat) = ((2 ^ j : Nat) : Int) * ((2 ^ (-(j : Int)).toNat : Nat) : Int)
    rw [show (-(j : Int)).toNat = 0 by omega, show ((j : Int)).toNat = j by omega]
    simp [Core.signed]
  have h2 := Core.whole_product ha h1
  have e2 : Core.exactProduct (sh k (.fin s c q)) (.fin false 1 (j : Int)) = sh ((k + j : Nat) : Int) (.fin s c q) := by
    show Core.Datum.fin (s != false) (c * 1) (q + (k : Int) + (j : Int)) = Core.Datum.fin s c (q + ((k + j : Nat) : Int))
    rw [Nat.mul_one, show (s != false) = s by cases s <;> rfl, show q + (k : Int) + (j : Int) = q + ((k + j : Nat) : Int) by omega]
  rw [e2] at h2
  exact h2
theorem whole_unscale {i : Int} {s : Bool} {c j : Nat} {q : Int} (h : Core.Whole (i * ((2 ^ j : Nat) : Int)) (.fin s c (q + (j : Int)))) : Core.Whole i (.fin s c q) := by
  have h1 : Core.signed s (c * 2 ^ (q + (j : Int)).toNat) = i * ((2 ^ j : Nat) : Int) * ((2 ^ (-(q + (j : Int))).toNat : Nat) : Int) := h
  show Core.signed s (c * 2 ^ q.toNat) = i * ((2 ^ (-q).toNat : Nat) : Int)
  have p2 : ((2 ^ j * 2 ^ (-(q + (j : Int))).toNat : Nat) : Int) ≠ 0 := by
    have := Nat.mul_pos (Nat.two_pow_pos j) (Nat.two_pow_pos (-(q + (j : Int))).toNat); omega
  refine Int.eq_of_mul_eq_mul_right p2 ?_
  have hx : q.toNat + (j + (-(q + (j : Int))).toNat) = (q + (j : Int)).toNat + (-q).toNat := by omega
  calc Core.signed s (c * 2 ^ q.toNat) * ((2 ^ j * 2 ^ (-(q + (j : Int))).toNat : Nat) : Int)
      = Core.signed s (c * 2 ^ (q.toNat + (j + (-(q + (j : Int))).toNat))) := by
        rw [← Core.signed_mul, Nat.pow_add 2 q.toNat, Nat.pow_add 2 j, Nat.mul_assoc c]
    _ = Core.signed s (c * 2 ^ (q + (j : Int)).toNat * 2 ^ (-q).toNat) := by rw [hx, Nat.pow_add, Nat.mul_assoc c]
    _ = i * ((2 ^ j : Nat) : Int) * ((2 ^ (-(q + (j : Int))).toNat : Nat) : Int) * ((2 ^ (-q).toNat : Nat) : Int) := by rw [Core.signed_mul, h1]
    _ = i * ((2 ^ (-q).toNat : Nat) : Int) * ((2 ^ j * 2 ^ (-(q + (j : Int))).toNat : Nat) : Int) := by rw [Int.natCast_mul]; ac_rfl
theorem sh_unscale {i : Int} {k j : Nat} {d : Core.Datum} (h : Core.Whole (i * ((2 ^ j : Nat) : Int)) (sh ((k + j : Nat) : Int) d)) : Core.Whole i (sh k d) := by
  cases d with
  | nan => exact h.elim
  | inf => exact h.elim
  | fin s c q =>
    refine whole_unscale (j := j) ?_
    have e : q + ((k + j : Nat) : Int) = q + (k : Int) + (j : Int) := by omega
    have h' : Core.Whole (i * ((2 ^ j : Nat) : Int)) (.fin s c (q + ((k + j : Nat) : Int))) := h
    rw [e] at h'; exact h'
theorem Dy.unscale {i : Int} {k j : Nat} {u : UInt64} (h : Dy (i * ((2 ^ j : Nat) : Int)) (k + j) u) : Dy i k u := sh_unscale h
theorem Dy.mulTo {i j n : Int} {k l r t : Nat} {a b : UInt64} (ha : Dy i k a) (hb : Dy j l b) (hn : i * j = n * ((2 ^ t : Nat) : Int)) (hr : k + l = r + t) (h : n.natAbs ≤ 2 ^ 53) (hk : r ≤ 1000) : Dy n r (FP.dmul a b) := by
  unfold Dy
  rw [show Core.val64 (FP.dmul a b) = _ from Core.val64_dmul a b]
  refine round_dy (sh_unscale (j := t) ?_) h hk
  have h1 := Core.whole_product ha hb
  rw [sh_prod, hn, ← Int.natCast_add, hr] at h1
  exact h1
theorem Dy.cast {i i' : Int} {k k' : Nat} {a : UInt64} (ha : Dy i k a) (hi : i = i') (hk : k = k') : Dy i' k' a := by subst hi hk; exact ha
theorem Dy.unique {i : Int} {k : Nat} {a b : UInt64} (ha : Dy i k a) (hb : Dy i k b) (hi : i ≠ 0) : a = b := by
  obtain ⟨s, c, q, e⟩ := ha.shape
  obtain ⟨t, d, r, e'⟩ := hb.shape
  refine Core.val64_inj ha.ne_nan ?_
  have f1 := Core.round_of_fits Core.good_b64 (Core.val64_fits a)
  have f2 := Core.round_of_fits Core.good_b64 (Core.val64_fits b)
  have ha' := ha; have hb' := hb
  unfold Dy at ha' hb'
  rw [e] at ha' f1; rw [e'] at hb' f2
  rw [e, e', ← f1, ← f2, round_eq ha', round_eq hb', Core.whole_sign (show Core.Whole i (.fin s c (q + (k : Int))) from ha') hi, Core.whole_sign (show Core.Whole i (.fin t d (r + (k : Int))) from hb') hi]
/-- the quotient of two dyadics, the divisor positive, is the ratio rounded -/
theorem div_val {i j : Int} {k : Nat} {a b : UInt64} (ha : Dy i k a) (hb : Dy j 0 b) (hj : 0 < j) : ∃ s, Core.signed s i.natAbs = i ∧ Core.val64 (FP.ddiv a b) = Core.roundRatio Core.b64 s i.natAbs j.natAbs (-(k : Int)) := by
  obtain ⟨s, c, q, e⟩ := ha.shape
  obtain ⟨t, d, r, e'⟩ := hb.shape
  have ha' := ha; have hb' := hb
  unfold Dy at ha' hb'
  rw [e] at ha'; rw [e', sh_zero] at hb'
  have ha2 : Core.Whole i (.fin s c (q + (k : Int))) := ha'
  have ht : t = false := by rw [Core.whole_sign hb' (by omega)]; simp; omega
  have hd : d ≠ 0 := fun hd => by have := (Core.whole_zero hb').mp hd; omega
  refine ⟨s, sgn_whole ha2, ?_⟩
  rw [show Core.val64 (FP.ddiv a b) = _ from Core.val64_ddiv a b, e, e']
  show (if d = 0 then (if c = 0 then Core.Datum.nan else .inf (s != t)) else Core.roundRatio Core.b64 (s != t) c d (q - r)) = _
  rw [if_neg hd, ht, show (s != false) = s by cases s <;> rfl]
  refine Core.roundRatio_congr (by omega) (by omega) ?_
  have h1 := Core.whole_natAbs ha2
  have h2 := Core.whole_natAbs hb'
  rw [show (q - r - -(k : Int)) = (q + (k : Int)) - r by omega, show (-(k : Int) - (q - r)) = r - (q + (k : Int)) by omega]
  generalize q + (k : Int) = A at h1 ⊢
  generalize i.natAbs = I at h1 ⊢
  generalize j.natAbs = J at h2 ⊢
  refine Nat.eq_of_mul_eq_mul_right (Nat.mul_pos (Nat.two_pow_pos (-A).toNat) (Nat.two_pow_pos r.toNat)) ?_
  have hx : (A - r).toNat + ((-A).toNat + r.toNat) = A.toNat + (-r).toNat + (r - A).toNat := by omega
  calc c * J * 2 ^ (A - r).toNat * (2 ^ (-A).toNat * 2 ^ r.toNat)
      = c * J * 2 ^ ((A - r).toNat + ((-A).toNat + r.toNat)) := by rw [Nat.pow_add, Nat.pow_add]; ac_rfl
    _ = (c * 2 ^ A.toNat) * (J * 2 ^ (-r).toNat) * 2 ^ (r - A).toNat := by rw [hx, Nat.pow_add, Nat.pow_add]; ac_rfl
    _ = (I * 2 ^ (-A).toNat) * (d * 2 ^ r.toNat) * 2 ^ (r - A).toNat := by rw [h1, h2]
    _ = I * d * 2 ^ (r - A).toNat * (2 ^ (-A).toNat * 2 ^ r.toNat) := by ac_rfl
theorem Dy.div {i j m : Int} {k : Nat} {a b : UInt64} (ha : Dy i k a) (hb : Dy j 0 b) (hj : 0 < j) (hm : i = m * j) (h : m.natAbs ≤ 2 ^ 53) (hk : k ≤ 1000) : Dy m k (FP.ddiv a b) := by
  obtain ⟨s, hs, e⟩ := div_val ha hb hj
  unfold Dy
  have hn : i.natAbs = m.natAbs * j.natAbs := by rw [hm, Int.natAbs_mul]
  have e2 : Core.roundRatio Core.b64 s i.natAbs j.natAbs (-(k : Int)) = Core.roundRatio Core.b64 s m.natAbs 1 (-(k : Int)) := by
    refine Core.roundRatio_congr (by omega) (by decide) ?_
    rw [hn, Nat.mul_one]
  rw [e, e2]
  refine whole_ratio s ?_ h hk
  have h3 : Core.signed s i.natAbs = Core.signed s m.natAbs * j := by
    rw [hn, Core.signed_mul, show ((j.natAbs : Nat) : Int) = j by omega]
  rw [hs, hm] at h3
  exact (Int.eq_of_mul_eq_mul_right (by omega) h3).symm
/-- equal ratios, equally rounded -/
theorem div_cmp_eq {i j i' j' : Int} {k k' : Nat} {a b a' b' : UInt64} (ha : Dy i k a) (hb : Dy j 0 b) (hj : 0 < j) (ha' : Dy i' k' a') (hb' : Dy j' 0 b') (hj' : 0 < j') (hk : k ≤ 1000) (hk' : k' ≤ 1000)
    (h : i * j' * (2 ^ k' : Nat) = i' * j * (2 ^ k : Nat)) : FP.dcmp (FP.ddiv a b) (FP.ddiv a' b') = some .eq := by
  by_cases hi : i = 0
  · subst hi
    have hi' : i' = 0 := by
      rw [Int.zero_mul, Int.zero_mul] at h
      have p1 : ((2 ^ k : Nat) : Int) ≠ 0 := by have := Nat.two_pow_pos k; omega
      rcases Int.mul_eq_zero.mp h.symm with q | q
      · rcases Int.mul_eq_zero.mp q with q | q
        · exact q
        · omega
      · exact absurd q p1
    subst hi'
    have d1 := (ha.div hb hj (m := 0) (by omega) (by decide) hk).scale k'
    have d2 := (ha'.div hb' hj' (m := 0) (by omega) (by decide) hk').scale k
    have e2 : k' + k = k + k' := by omega
    rw [Dy.cmp d1 (d2.cast rfl e2)]
    simp [Core.compare_self_int]
  · obtain ⟨s, hs, e⟩ := div_val ha hb hj
    obtain ⟨s', hs', e'⟩ := div_val ha' hb' hj'
    have n1 := congrArg Int.natAbs h
    rw [Int.natAbs_mul, Int.natAbs_mul, Int.natAbs_mul, Int.natAbs_mul, Int.natAbs_natCast, Int.natAbs_natCast] at n1
    have p1 : (0 : Int) < ((2 ^ k : Nat) : Int) := by have := Nat.two_pow_pos k; omega
    have p2 : (0 : Int) < ((2 ^ k' : Nat) : Int) := by have := Nat.two_pow_pos k'; omega
    have hss : s = s' := by
      have q1 : (0 < i ↔ 0 < i') := by
        have a1 : (0 < i * j' * ((2 ^ k' : Nat) : Int)) ↔ 0 < i := by
          rw [Int.mul_assoc]; exact mpos (Int.mul_pos hj' p2)
        have a2 : (0 < i' * j * ((2 ^ k : Nat) : Int)) ↔ 0 < i' := by
          rw [Int.mul_assoc]; exact mpos (Int.mul_pos hj p1)
        rw [← a1, ← a2, h]
      have hi' : i' ≠ 0 := fun z => by
        rw [z, Int.zero_mul, Int.zero_mul] at h
        rcases Int.mul_eq_zero.mp h with q | q
        · rcases Int.mul_eq_zero.mp q with q | q
          · exact hi q
          · omega
        · omega
      unfold Core.signed at hs hs'
      cases s <;> cases s' <;> simp at hs hs' ⊢ <;> omega
    have ev : Core.val64 (FP.ddiv a b) = Core.val64 (FP.ddiv a' b') := by
      rw [e, e', hss]
      refine Core.roundRatio_congr (by omega) (by omega) ?_
      rcases Nat.le_total k k' with q | q
      · obtain ⟨z, rfl⟩ : ∃ z, k' = k + z := ⟨k' - k, by omega⟩
        rw [show (-(k : Int) - -((k + z : Nat) : Int)).toNat = z by omega, show (-((k + z : Nat) : Int) - -(k : Int)).toNat = 0 by omega, Nat.pow_zero, Nat.mul_one]
        rw [Nat.pow_add] at n1
        refine Nat.eq_of_mul_eq_mul_right (Nat.two_pow_pos k) ?_
        rw [← n1]; ac_rfl
      · obtain ⟨z, rfl⟩ : ∃ z, k = k' + z := ⟨k - k', by omega⟩
        rw [show (-((k' + z : Nat) : Int) - -(k' : Int)).toNat = 0 by omega, show (-(k' : Int) - -((k' + z : Nat) : Int)).toNat = z by omega, Nat.pow_zero, Nat.mul_one]
        rw [Nat.pow_add] at n1
        refine Nat.eq_of_mul_eq_mul_right (Nat.two_pow_pos k') ?_
        rw [n1]; ac_rfl
    have nn : Core.val64 (FP.ddiv a b) ≠ .nan := by rw [e]; exact Core.roundRatio_ne_nan _ _ _ _ _
    show Core.order (Core.val64 (FP.ddiv a b)) (Core.val64 (FP.ddiv a' b')) = _
    rw [← ev]
    exact Core.order_self nn
theorem div_noNaN {i j : Int} {k : Nat} {a b : UInt64} (ha : Dy i k a) (hb : Dy j 0 b) (hj : 0 < j) : NoNaN64 (FP.ddiv a b) := by
  obtain ⟨s, hs, e⟩ := div_val ha hb hj
  exact val64_no.mpr (by rw [e]; exact Core.roundRatio_ne_nan _ _ _ _ _)
/-- what dcmpl and dcmpg push -/
theorem cmpV_of (i j : Int) (o : ClassFile.CmpOp) : Op.cmpValue (some (compare i j)) o = if i < j then -1 else if i = j then 0 else 1 := by
  rw [Core.compare_ite]
  by_cases h1 : i < j
  · rw [if_pos h1, if_pos h1]; cases o <;> rfl
  · rw [if_neg h1, if_neg h1]
    by_cases h2 : i = j
    · rw [if_pos h2, if_pos h2]; cases o <;> rfl
    · rw [if_neg h2, if_neg h2]; cases o <;> rfl
theorem Dy.cmpV {i j : Int} {k : Nat} {a b : UInt64} (ha : Dy i k a) (hb : Dy j k b) (o : ClassFile.CmpOp) : Op.cmpValue (FP.dcmp a b) o = if i < j then -1 else if i = j then 0 else 1 := by
  rw [Dy.cmp ha hb]; exact cmpV_of i j o
theorem dy_zero : Dy 0 0 FP.dconst0 := by
  unfold Dy; rw [sh_zero, show Core.val64 FP.dconst0 = .fin false 0 Core.b64.qmin from Core.val64_dconst0]
  show Core.signed false (0 * _) = 0 * _
  rw [Nat.zero_mul, Int.zero_mul]; rfl
theorem dy_one : Dy 1 0 FP.dconst1 := by
  unfold Dy; rw [sh_zero, show Core.val64 FP.dconst1 = .fin false (2 ^ 52) (-52) from Core.val64_dconst1]
  show Core.signed false (2 ^ 52 * 2 ^ (-52 : Int).toNat) = 1 * ((2 ^ (-(-52 : Int)).toNat : Nat) : Int)
  decide
theorem Dy.of_bits {u : UInt64} {c : Nat} {q : Int} {i : Int} {k : Nat} (h : Core.val64 u = .fin false c q) (hi : ((c * 2 ^ (q + k).toNat : Nat) : Int) = i * ((2 ^ (-(q + k)).toNat : Nat) : Int)) : Dy i k u := by
  unfold Dy; rw [h]; exact hi
theorem Dy.maxz {i : Int} {u : UInt64} (h : Dy i 0 u) : Dy (max i 0) 0 (Jvm.Native.java_lang_Math.nans.pick64 true u FP.dconst0) := by
  have e := Dy.cmp h dy_zero
  unfold Jvm.Native.java_lang_Math.nans.pick64
  rw [e, Core.compare_ite]
  by_cases h1 : i < 0
  · rw [if_pos h1]; exact dy_zero.cast (by omega) rfl
  · rw [if_neg h1]
    by_cases h2 : i = 0
    · rw [if_pos h2]
      show Dy (max i 0) 0 (if ((u >>> 63 == 1) == true) = true then FP.dconst0 else u)
      split
      · exact dy_zero.cast (by omega) rfl
      · exact h.cast (by omega) rfl
    · rw [if_neg h2]; exact h.cast (by omega) rfl
theorem Dy.i2d (x : Int32) : Dy x.toInt 0 (FP.i2d x) := Dy.of_int (Core.i2d_int x)
theorem Dy.l2d {x : Int64} (h : x.toInt.natAbs ≤ 2 ^ 53) : Dy x.toInt 0 (FP.l2d x) := Dy.of_int (Core.l2d_int h)
end Jvm.OwnF
namespace Jvm.OwnF
open Jvm.FP Jvm.Free.Fl
/-- what one add does to mean and squares -/
def AddS (u me sq : UInt64) (c : Int64) (me' sq' : UInt64) : Prop := ∃ d1 d2 d4 d5, FP.dsub u me = d1 ∧ NoNaN64 d1 ∧ FP.ddiv d1 (FP.l2d c) = d2 ∧ NoNaN64 d2 ∧ FP.dadd me d2 = me' ∧ NoNaN64 me' ∧ FP.dsub u me' = d4 ∧ NoNaN64 d4 ∧ FP.dmul d1 d4 = d5 ∧ NoNaN64 d5 ∧ FP.dadd sq d5 = sq' ∧ NoNaN64 sq'
theorem addS_of {u me sq d1 d2 m3 d4 d5 s6 : UInt64} {c : Int64} {i1 i2 i3 i4 i5 i6 : Int} {k1 k2 k3 k4 k5 k6 : Nat} (e1 : FP.dsub u me = d1) (y1 : Dy i1 k1 d1) (e2 : FP.ddiv d1 (FP.l2d c) = d2) (y2 : Dy i2 k2 d2) (e3 : FP.dadd me d2 = m3) (y3 : Dy i3 k3 m3) (e4 : FP.dsub u m3 = d4) (y4 : Dy i4 k4 d4) (e5 : FP.dmul d1 d4 = d5) (y5 : Dy i5 k5 d5) (e6 : FP.dadd sq d5 = s6) (y6 : Dy i6 k6 s6) : AddS u me sq c m3 s6 :=
  ⟨d1, d2, d4, d5, e1, y1.noNaN, e2, y2.noNaN, e3, y3.noNaN, e4, y4.noNaN, e5, y5.noNaN, e6, y6.noNaN⟩
theorem dy_l {c : Int64} {n : Int} (h : c.toInt = n) (hn : n.natAbs ≤ 2 ^ 53) : Dy n 0 (FP.l2d c) := h ▸ Dy.l2d (by rw [h]; exact hn)
theorem st1 {u : UInt64} {c : Int64} {A : Int} (yu : Dy A 0 u) (hA : A.natAbs ≤ 2000000) (hc : c.toInt = 1) : ∃ me' sq', AddS u 0 0 c me' sq' ∧ Dy A 0 me' ∧ Dy 0 0 sq' := by
  have z : Dy 0 0 (0 : UInt64) := dy_zero
  have y1 : Dy A 0 (FP.dsub u 0) := (yu.sub z (by omega) (by decide)).cast (by omega) rfl
  have y2 : Dy A 0 (FP.ddiv (FP.dsub u 0) (FP.l2d c)) := y1.div (dy_l hc (by decide)) (by decide) (by omega) (by omega) (by decide)
  have y3 : Dy A 0 (FP.dadd 0 (FP.ddiv (FP.dsub u 0) (FP.l2d c))) := (z.add y2 (by omega) (by decide)).cast (by omega) rfl
  have y4 : Dy 0 0 (FP.dsub u (FP.dadd 0 (FP.ddiv (FP.dsub u 0) (FP.l2d c)))) := (yu.sub y3 (by omega) (by decide)).cast (by omega) rfl
  have y5 : Dy 0 0 (FP.dmul (FP.dsub u 0) (FP.dsub u (FP.dadd 0 (FP.ddiv (FP.dsub u 0) (FP.l2d c))))) := (y1.mul y4 (by rw [Int.mul_zero]; decide) (by decide)).cast (Int.mul_zero _) rfl
  have y6 := (z.add y5 (by decide) (by decide)).cast (Int.zero_add 0) rfl
  exact ⟨_, _, addS_of rfl y1 rfl y2 rfl y3 rfl y4 rfl y5 rfl y6, y3, y6⟩
theorem sq_le {D : Int} (h : D.natAbs ≤ 4194304) : (D * D).natAbs ≤ 17592186044416 := by rw [Int.natAbs_mul]; exact Nat.mul_le_mul h h
theorem st2 {u me sq : UInt64} {c : Int64} {A B : Int} (yu : Dy B 0 u) (ym : Dy A 0 me) (ys : Dy 0 0 sq) (hA : A.natAbs ≤ 2000000) (hB : B.natAbs ≤ 2000000) (hc : c.toInt = 2) : ∃ me' sq', AddS u me sq c me' sq' ∧ Dy (A + B) 1 me' ∧ Dy ((B - A) * (B - A)) 1 sq' := by
  have hq := sq_le (D := B - A) (by omega)
  have y1 : Dy (B - A) 0 (FP.dsub u me) := yu.sub ym (by omega) (by decide)
  have y1' : Dy ((B - A) * 2) 1 (FP.dsub u me) := (y1.scale 1).cast (by rfl) rfl
  have y2 : Dy (B - A) 1 (FP.ddiv (FP.dsub u me) (FP.l2d c)) := y1'.div (dy_l hc (by decide)) (by decide) rfl (by omega) (by decide)
  have ym' : Dy (A * 2) 1 me := (ym.scale 1).cast (by rfl) rfl
  have yu' : Dy (B * 2) 1 u := (yu.scale 1).cast (by rfl) rfl
  have y3 : Dy (A + B) 1 (FP.dadd me (FP.ddiv (FP.dsub u me) (FP.l2d c))) := (ym'.add y2 (by omega) (by decide)).cast (by omega) rfl
  have y4 : Dy (B - A) 1 (FP.dsub u (FP.dadd me (FP.ddiv (FP.dsub u me) (FP.l2d c)))) := (yu'.sub y3 (by omega) (by decide)).cast (by omega) rfl
  have y5 : Dy ((B - A) * (B - A)) 1 (FP.dmul (FP.dsub u me) (FP.dsub u (FP.dadd me (FP.ddiv (FP.dsub u me) (FP.l2d c))))) := (y1.mul y4 (by omega) (by decide)).cast rfl rfl
  have ys' : Dy 0 1 sq := (ys.scale 1).cast (by rfl) rfl
  have y6 := (ys'.add y5 (by omega) (by decide)).cast (Int.zero_add _) rfl
  exact ⟨_, _, addS_of rfl y1 rfl y2 rfl y3 rfl y4 rfl y5 rfl y6, y3, y6⟩
theorem st3 {u me sq : UInt64} {c : Int64} {S Q : Int} (yu : Dy S 1 u) (ym : Dy S 1 me) (ys : Dy Q 1 sq) (hS : S.natAbs ≤ 4000000) (hQ : Q.natAbs ≤ 17592186044416) (hc : c.toInt = 3) : ∃ me' sq', AddS u me sq c me' sq' ∧ Dy Q 1 sq' := by
  have y1 : Dy 0 1 (FP.dsub u me) := (yu.sub ym (by omega) (by decide)).cast (by omega) rfl
  have y2 : Dy 0 1 (FP.ddiv (FP.dsub u me) (FP.l2d c)) := y1.div (dy_l hc (by decide)) (by decide) (by omega) (by decide) (by decide)
  have y3 : Dy S 1 (FP.dadd me (FP.ddiv (FP.dsub u me) (FP.l2d c))) := (ym.add y2 (by omega) (by decide)).cast (by omega) rfl
  have y4 : Dy 0 1 (FP.dsub u (FP.dadd me (FP.ddiv (FP.dsub u me) (FP.l2d c)))) := (yu.sub y3 (by omega) (by decide)).cast (by omega) rfl
  have y5 : Dy 0 2 (FP.dmul (FP.dsub u me) (FP.dsub u (FP.dadd me (FP.ddiv (FP.dsub u me) (FP.l2d c))))) := (y1.mul y4 (by decide) (by decide)).cast (Int.mul_zero _) rfl
  have ys' : Dy (Q * 2) 2 sq := (ys.scale 1).cast (by rfl) rfl
  have y6 : Dy (Q * 2) 2 _ := (ys'.add y5 (by omega) (by decide)).cast (Int.add_zero _) rfl
  exact ⟨_, _, addS_of rfl y1 rfl y2 rfl y3 rfl y4 rfl y5 rfl y6, Dy.unscale (j := 1) y6⟩
end Jvm.OwnF
namespace Jvm.RoadKit
open Sem ClassFile Op Lib Jvm.Stand Jvm.Free Jvm.LawKit
section New
variable {p : Program} {l : Launch} {e : Env} {R : Room} {s : State} {m : MethodId} {args : Array Value} {below : List Frame} {meth : Method} {c : Code} {T : State} {locs : List Loc} {cells slots : Nat}
theorem retI (X : Stand p l e R s m args below meth c T locs cells slots) (hx : p.tables.exec = Jvm.exec) {pc : Nat} {Ls : Array Slot} {z : Int32} {rest : List Value} (hret : meth.sig.returnType = some .int) (hd : decode c.code pc = .ok (.ireturn, 1)) {fs : List Frame}
    (hl : ∀ (f : JFrame) (acts : List Action), f.method = m → f.locked = none → f.entered = [] → (doReturn e (T.setTop f) acts (some (.int z))).1 = T.setFrames fs) : Steps p.tables e below (T.setTop (mkF m pc Ls (.int z :: rest))) (T.setFrames fs) := by
  have hm' : T.vm.method? m = some meth := X.method'
  have hn : narrow .int (.int z) = .int z := rfl
  show Steps p.tables e below (T.setTop { method := m, pc := pc, locals := Ls, stack := _ :: rest, locked := none }) _
  jvm_step X.here [X.here.top, hx, hd, hm', hret, hn]
  first | (intro acts; rw [hl _ acts rfl rfl rfl]) | rw [hl _ _ rfl rfl rfl]
  exact Steps.refl _
theorem retD (X : Stand p l e R s m args below meth c T locs cells slots) (hx : p.tables.exec = Jvm.exec) {pc : Nat} {Ls : Array Slot} {z : UInt64} {rest : List Value} (hret : meth.sig.returnType = some .double) (hd : decode c.code pc = .ok (.dreturn, 1)) {fs : List Frame}
    (hl : ∀ (f : JFrame) (acts : List Action), f.method = m → f.locked = none → f.entered = [] → (doReturn e (T.setTop f) acts (some (.double z))).1 = T.setFrames fs) : Steps p.tables e below (T.setTop (mkF m pc Ls (.double z :: rest))) (T.setFrames fs) := by
  have hm' : T.vm.method? m = some meth := X.method'
  have hn : narrow .double (.double z) = .double z := rfl
  show Steps p.tables e below (T.setTop { method := m, pc := pc, locals := Ls, stack := _ :: rest, locked := none }) _
  jvm_step X.here [X.here.top, hx, hd, hm', hret, hn]
  first | (intro acts; rw [hl _ acts rfl rfl rfl]) | rw [hl _ _ rfl rfl rfl]
  exact Steps.refl _
theorem retB (X : Stand p l e R s m args below meth c T locs cells slots) (hx : p.tables.exec = Jvm.exec) {pc : Nat} {Ls : Array Slot} {z : Int32} {rest : List Value} (hret : meth.sig.returnType = some .boolean) (hz : z = 0 ∨ z = 1) (hd : decode c.code pc = .ok (.ireturn, 1)) {fs : List Frame}
    (hl : ∀ (f : JFrame) (acts : List Action), f.method = m → f.locked = none → f.entered = [] → (doReturn e (T.setTop f) acts (some (.int z))).1 = T.setFrames fs) : Steps p.tables e below (T.setTop (mkF m pc Ls (.int z :: rest))) (T.setFrames fs) := by
  have q : nar .boolean z = z := by rcases hz with rfl | rfl <;> rfl
  refine retN X hx hret (Or.inl rfl) hd ?_
  rw [q]; exact hl
end New
end Jvm.RoadKit
namespace Jvm.Pilot.@@N@@
open Jvm Jvm.ClassFile Sem Op Lib Jvm.Free Jvm.Stand Jvm.LawKit Jvm.RoadKit Bundle Jvm.Pilot.@@N@@.Jvm.D Jvm.OwnF Jvm.Free.Fl
theorem own_sel (x : Int32) : (x &&& (3 : Int32)) = 0 ∨ (x &&& (3 : Int32)) = 1 ∨ (x &&& (3 : Int32)) = 2 ∨ (x &&& (3 : Int32)) = 3 := by
  have h := c_mask x 3 2 (by decide) (by decide)
  have q : (x &&& (3 : Int32)).toInt = 0 ∨ (x &&& (3 : Int32)).toInt = 1 ∨ (x &&& (3 : Int32)).toInt = 2 ∨ (x &&& (3 : Int32)).toInt = 3 := by omega
  rcases q with q | q | q | q
  · exact Or.inl (Int32.toInt_inj.mp q)
  · exact Or.inr (Or.inl (Int32.toInt_inj.mp q))
  · exact Or.inr (Or.inr (Or.inl (Int32.toInt_inj.mp q)))
  · exact Or.inr (Or.inr (Or.inr (Int32.toInt_inj.mp q)))
theorem own_b (x : Int32) : (x % (1000000 : Int32)).toInt.natAbs ≤ 1000000 := by
  have a := c_irem x 1000000 1000000 (by decide)
  rcases Int.lt_or_le x.toInt 0 with q | q
  · have := a.2 q; omega
  · have := a.1 q; omega
theorem own_dl {aa bb : Int32} (ha : aa.toInt.natAbs ≤ 1000000) (hb : bb.toInt.natAbs ≤ 1000000) : ((bb.toInt64) - (aa.toInt64)).toInt = bb.toInt - aa.toInt := by
  have q := c_lsub bb.toInt64 aa.toInt64; rw [c_i2l, c_i2l] at q
  have := rng64 (bb.toInt64 - aa.toInt64); omega
theorem own_dd {dl : Int64} {D : Int} (h : dl.toInt = D) (hq : (D * D).natAbs ≤ 17592186044416) : Dy (D * D) 0 (FP.l2d (dl * dl)) := by
  have q := c_lmul dl dl; rw [h] at q
  have r := rng64 (dl * dl)
  have e : (dl * dl).toInt = D * D := by generalize D * D = P at *; omega
  exact dy_l e (by omega)
theorem own_ab {aa bb : Int32} (ha : aa.toInt.natAbs ≤ 1000000) (hb : bb.toInt.natAbs ≤ 1000000) : (aa + bb).toInt = aa.toInt + bb.toInt := by
  have q := c_iadd aa bb; have := rng32 (aa + bb); omega
theorem own_two : Dy 2 0 (4611686018427387904 : UInt64) := Dy.of_bits (c := 4503599627370496) (q := -51) (by decide +kernel) (by decide +kernel)
theorem own_three : Dy 3 0 (4613937818241073152 : UInt64) := Dy.of_bits (c := 6755399441055744) (q := -51) (by decide +kernel) (by decide +kernel)
theorem own_four : Dy 4 0 (4616189618054758400 : UInt64) := Dy.of_bits (c := 4503599627370496) (q := -50) (by decide +kernel) (by decide +kernel)
theorem own_fw {args : Array Value} {s : State} {w : Addr} {t : Term} (ev : t.eval args s none [] s = some (.ref w)) (h : (Jvm.Cond.eq (Jvm.Term.field t "java/util/OptionalDouble" "isPresent" "Z") (Jvm.Term.int (0 : Int32))).value args s none s [] = some true) : Fld s s.heap w "java/util/OptionalDouble" "isPresent" "Z" (.int (0 : Int32)) := by
  exact Fld.start ((fld_at ev).symm.trans (eqv_i (Term.int_eval 0) h))









theorem d1_0 : decode prog_6_method_1_code 0 = .ok (.aload_n 0, 1) := by decide +kernel
theorem d1_1 : decode prog_6_method_1_code 1 = .ok (.invokespecial 1, 3) := by decide +kernel
theorem d1_4 : decode prog_6_method_1_code 4 = .ok (.return_, 1) := by decide +kernel
theorem d3_0 : decode prog_6_method_2_code 0 = .ok (.aload_n 0, 1) := by decide +kernel
theorem d3_1 : decode prog_6_method_2_code 1 = .ok (.dup, 1) := by decide +kernel
theorem d3_2 : decode prog_6_method_2_code 2 = .ok (.getfield 7, 3) := by decide +kernel
theorem d3_5 : decode prog_6_method_2_code 5 = .ok (.lconst 1, 1) := by decide +kernel
theorem d3_6 : decode prog_6_method_2_code 6 = .ok (.ladd, 1) := by decide +kernel
theorem d3_7 : decode prog_6_method_2_code 7 = .ok (.putfield 7, 3) := by decide +kernel
theorem d3_10 : decode prog_6_method_2_code 10 = .ok (.dload_n 1, 1) := by decide +kernel
theorem d3_11 : decode prog_6_method_2_code 11 = .ok (.aload_n 0, 1) := by decide +kernel
theorem d3_12 : decode prog_6_method_2_code 12 = .ok (.getfield 13, 3) := by decide +kernel
theorem d3_15 : decode prog_6_method_2_code 15 = .ok (.dsub, 1) := by decide +kernel
theorem d3_16 : decode prog_6_method_2_code 16 = .ok (.dstore_n 3, 1) := by decide +kernel
theorem d3_17 : decode prog_6_method_2_code 17 = .ok (.aload_n 0, 1) := by decide +kernel
theorem d3_18 : decode prog_6_method_2_code 18 = .ok (.dup, 1) := by decide +kernel
theorem d3_19 : decode prog_6_method_2_code 19 = .ok (.getfield 13, 3) := by decide +kernel
theorem d3_22 : decode prog_6_method_2_code 22 = .ok (.dload_n 3, 1) := by decide +kernel
theorem d3_23 : decode prog_6_method_2_code 23 = .ok (.aload_n 0, 1) := by decide +kernel
theorem d3_24 : decode prog_6_method_2_code 24 = .ok (.getfield 7, 3) := by decide +kernel
theorem d3_27 : decode prog_6_method_2_code 27 = .ok (.l2d, 1) := by decide +kernel
theorem d3_28 : decode prog_6_method_2_code 28 = .ok (.ddiv, 1) := by decide +kernel
theorem d3_29 : decode prog_6_method_2_code 29 = .ok (.dadd, 1) := by decide +kernel
theorem d3_30 : decode prog_6_method_2_code 30 = .ok (.putfield 13, 3) := by decide +kernel
theorem d3_33 : decode prog_6_method_2_code 33 = .ok (.aload_n 0, 1) := by decide +kernel
theorem d3_34 : decode prog_6_method_2_code 34 = .ok (.dup, 1) := by decide +kernel
theorem d3_35 : decode prog_6_method_2_code 35 = .ok (.getfield 17, 3) := by decide +kernel
theorem d3_38 : decode prog_6_method_2_code 38 = .ok (.dload_n 3, 1) := by decide +kernel
theorem d3_39 : decode prog_6_method_2_code 39 = .ok (.dload_n 1, 1) := by decide +kernel
theorem d3_40 : decode prog_6_method_2_code 40 = .ok (.aload_n 0, 1) := by decide +kernel
theorem d3_41 : decode prog_6_method_2_code 41 = .ok (.getfield 13, 3) := by decide +kernel
theorem d3_44 : decode prog_6_method_2_code 44 = .ok (.dsub, 1) := by decide +kernel
theorem d3_45 : decode prog_6_method_2_code 45 = .ok (.dmul, 1) := by decide +kernel
theorem d3_46 : decode prog_6_method_2_code 46 = .ok (.dadd, 1) := by decide +kernel
theorem d3_47 : decode prog_6_method_2_code 47 = .ok (.putfield 17, 3) := by decide +kernel
theorem d3_50 : decode prog_6_method_2_code 50 = .ok (.return_, 1) := by decide +kernel
theorem d4_0 : decode prog_6_method_4_code 0 = .ok (.iload_n 1, 1) := by decide +kernel
theorem d4_1 : decode prog_6_method_4_code 1 = .ok (.ifCond .eq 12, 3) := by decide +kernel
theorem d4_4 : decode prog_6_method_4_code 4 = .ok (.aload_n 0, 1) := by decide +kernel
theorem d4_5 : decode prog_6_method_4_code 5 = .ok (.getfield 7, 3) := by decide +kernel
theorem d4_8 : decode prog_6_method_4_code 8 = .ok (.lconst 1, 1) := by decide +kernel
theorem d4_9 : decode prog_6_method_4_code 9 = .ok (.lsub, 1) := by decide +kernel
theorem d4_10 : decode prog_6_method_4_code 10 = .ok (.goto 7, 3) := by decide +kernel
theorem d4_13 : decode prog_6_method_4_code 13 = .ok (.aload_n 0, 1) := by decide +kernel
theorem d4_14 : decode prog_6_method_4_code 14 = .ok (.getfield 7, 3) := by decide +kernel
theorem d4_17 : decode prog_6_method_4_code 17 = .ok (.lstore_n 2, 1) := by decide +kernel
theorem d4_18 : decode prog_6_method_4_code 18 = .ok (.lload_n 2, 1) := by decide +kernel
theorem d4_19 : decode prog_6_method_4_code 19 = .ok (.lconst 1, 1) := by decide +kernel
theorem d4_20 : decode prog_6_method_4_code 20 = .ok (.lcmp, 1) := by decide +kernel
theorem d4_21 : decode prog_6_method_4_code 21 = .ok (.ifCond .ge 9, 3) := by decide +kernel
theorem d4_24 : decode prog_6_method_4_code 24 = .ok (.invokestatic 20, 3) := by decide +kernel
theorem d4_27 : decode prog_6_method_4_code 27 = .ok (.goto 13, 3) := by decide +kernel
theorem d4_30 : decode prog_6_method_4_code 30 = .ok (.aload_n 0, 1) := by decide +kernel
theorem d4_31 : decode prog_6_method_4_code 31 = .ok (.getfield 17, 3) := by decide +kernel
theorem d4_34 : decode prog_6_method_4_code 34 = .ok (.lload_n 2, 1) := by decide +kernel
theorem d4_35 : decode prog_6_method_4_code 35 = .ok (.l2d, 1) := by decide +kernel
theorem d4_36 : decode prog_6_method_4_code 36 = .ok (.ddiv, 1) := by decide +kernel
theorem d4_37 : decode prog_6_method_4_code 37 = .ok (.invokestatic 26, 3) := by decide +kernel
theorem d4_40 : decode prog_6_method_4_code 40 = .ok (.areturn, 1) := by decide +kernel
theorem d5_0 : decode jdk_2648_method_4_code 0 = .ok (.new 8, 3) := by decide +kernel
theorem d5_3 : decode jdk_2648_method_4_code 3 = .ok (.dup, 1) := by decide +kernel
theorem d5_4 : decode jdk_2648_method_4_code 4 = .ok (.dload_n 0, 1) := by decide +kernel
theorem d5_5 : decode jdk_2648_method_4_code 5 = .ok (.invokespecial 25, 3) := by decide +kernel
theorem d5_8 : decode jdk_2648_method_4_code 8 = .ok (.areturn, 1) := by decide +kernel
theorem d6_0 : decode jdk_2648_method_3_code 0 = .ok (.aload_n 0, 1) := by decide +kernel
theorem d6_1 : decode jdk_2648_method_3_code 1 = .ok (.invokespecial 1, 3) := by decide +kernel
theorem d6_4 : decode jdk_2648_method_3_code 4 = .ok (.aload_n 0, 1) := by decide +kernel
theorem d6_5 : decode jdk_2648_method_3_code 5 = .ok (.iconst 1, 1) := by decide +kernel
theorem d6_6 : decode jdk_2648_method_3_code 6 = .ok (.putfield 7, 3) := by decide +kernel
theorem d6_9 : decode jdk_2648_method_3_code 9 = .ok (.aload_n 0, 1) := by decide +kernel
theorem d6_10 : decode jdk_2648_method_3_code 10 = .ok (.dload_n 1, 1) := by decide +kernel
theorem d6_11 : decode jdk_2648_method_3_code 11 = .ok (.putfield 17, 3) := by decide +kernel
theorem d6_14 : decode jdk_2648_method_3_code 14 = .ok (.return_, 1) := by decide +kernel
theorem d7_0 : decode jdk_2648_method_6_code 0 = .ok (.aload_n 0, 1) := by decide +kernel
theorem d7_1 : decode jdk_2648_method_6_code 1 = .ok (.getfield 7, 3) := by decide +kernel
theorem d7_4 : decode jdk_2648_method_6_code 4 = .ok (.ireturn, 1) := by decide +kernel
theorem d8_0 : decode jdk_2648_method_5_code 0 = .ok (.aload_n 0, 1) := by decide +kernel
theorem d8_1 : decode jdk_2648_method_5_code 1 = .ok (.getfield 7, 3) := by decide +kernel
theorem d8_4 : decode jdk_2648_method_5_code 4 = .ok (.ifCond .ne 13, 3) := by decide +kernel
theorem d8_17 : decode jdk_2648_method_5_code 17 = .ok (.aload_n 0, 1) := by decide +kernel
theorem d8_18 : decode jdk_2648_method_5_code 18 = .ok (.getfield 17, 3) := by decide +kernel
theorem d8_21 : decode jdk_2648_method_5_code 21 = .ok (.dreturn, 1) := by decide +kernel
theorem d9_0 : decode jdk_2648_method_2_code 0 = .ok (.getstatic 21, 3) := by decide +kernel
theorem d9_3 : decode jdk_2648_method_2_code 3 = .ok (.areturn, 1) := by decide +kernel
theorem pd_0 : parseMethodDescriptor "(D)V" = some ⟨[.double], none⟩ := by decide +kernel
theorem pd_1 : parseMethodDescriptor "()Ljava/util/OptionalDouble;" = some ⟨[], some (.object "java/util/OptionalDouble")⟩ := by decide +kernel
theorem pd_2 : parseMethodDescriptor "(D)Ljava/util/OptionalDouble;" = some ⟨[.double], some (.object "java/util/OptionalDouble")⟩ := by decide +kernel
theorem pd_3 : parseMethodDescriptor "()V" = some ⟨[], none⟩ := by decide +kernel
theorem pd_4 : parseMethodDescriptor "(Z)Ljava/util/OptionalDouble;" = some ⟨[.boolean], some (.object "java/util/OptionalDouble")⟩ := by decide +kernel
theorem pd_5 : parseMethodDescriptor "()Z" = some ⟨[], some .boolean⟩ := by decide +kernel
theorem pd_6 : parseMethodDescriptor "()D" = some ⟨[], some .double⟩ := by decide +kernel
theorem pn_1 : plainName "org/rowfold/aggregate/Moments" = true := by first | (simp [plainName, overriddenIn]; done) | decide +kernel
theorem ef_1 (m : MethodId) (x0 : Addr) : entryFrame m #[(.ref x0)] 1 = mkF m 0 #[.val (.ref x0)] [] := by first | (simp [entryFrame, mkF, argsToLocals, Value.category]; done) | rfl
def QmI (Z : State) (a1 : Addr)  (h0 : Heap) (n0 : Nat) (v : Option Value) (h : Heap) (L : List Loc) : Prop := v = none ∧ Fr n0 L ∧ h = h0
set_option maxRecDepth 65536 in
set_option maxHeartbeats 40000000 in
theorem rmI (l : Launch) (Z : State) (a0 : Array Value) (hw : ∀ d ∈ tables_1, d.before a0 Z = true) (ws : List Jvm.Cond) (a1 : Addr)  (h0 : Heap) (n0 : Nat) (Z0 : n0 ≤ h0.size)  :
    MetFree l (⟨"org/rowfold/aggregate/Moments", "<init>", "()V"⟩ : MethodName) (head1 (Jvm.Cond.code (⟨"org/rowfold/aggregate/Moments", "<init>", "()V"⟩ : MethodName) prog_6_method_1_code 1 none :: ws) ({ frames := 1, cells := 0, slots := 0, locals := 12 } : Room)) (fun a U => a = #[(.ref a1)] ∧ Z.Warmed39 U.vm ∧ U.heap = h0) (fun _ _ _ _ _ => True) (fun _ U o U' => ∃ v L, o = .returned v ∧ QmI Z a1 h0 n0 v U'.heap L ∧ FrameEnd U o U' L ({ frames := 1, cells := 0, slots := 0, locals := 12 } : Room).cells ({ frames := 1, cells := 0, slots := 0, locals := 12 } : Room).slots) := by
  refine MetFree.of_bodySF (plainFor_of_name pn_1) hisR ?_
  intro p e s m args below meth c s₁ Bd hml0 hP hK
  obtain ⟨rfl, hZ, hh⟩ := hP
  have hx := Bd.exec
  have hby := Bd.bytes
  have hml : c.maxLocals = 1 := hml0
  have hown : s.vm.findClass "org/rowfold/aggregate/Moments" = some m.cls := findClass_of_methodNamed Bd.named
  have hnm := (name_of_methodNamed Bd.named Bd.method).1
  have X0 : Stand p l e ({ frames := 1, cells := 0, slots := 0, locals := 12 } : Room) s m #[(.ref a1)] below meth c s₁ [] 0 0 := Stand.of_body Bd
  have e0 : s₁.heap = h0 := by rw [← hh, Bd.state]; rfl
  have N0 := Fr.nil n0
  have pre0 : ∀ t, Steps p.tables e below (s₁.setTop (mkF m 0 #[.val (.ref a1)] [])) t → Steps p.tables e below (s₁.setTop (entryFrame m #[(.ref a1)] 1)) t := fun t k => castTop (ef_1 m a1) k
  obtain ⟨S0, hS0⟩ : ∃ z, z = s₁.setTop (mkF m 0 #[.val (.ref a1)] []) := ⟨_, rfl⟩
  have r0 : Steps p.tables e below S0 (s₁.setTop (mkF m 0 #[.val (.ref a1)] [])) := by rw [hS0]; exact Steps.refl _
  have r1 : Steps p.tables e below S0 (s₁.setTop (mkF m 1 #[.val (.ref a1)] [(.ref a1)])) := by
    refine r0.trans ?_
    show Steps p.tables e below (s₁.setTop (mkF m 0 #[.val (.ref a1)] [])) _
    refine XS.aloadN X0.here hx rfl (hb hby d1_0) rfl rfl ?_
    exact Steps.refl _
  obtain ⟨T2, X2, e2, st2⟩ := initO X0 hx hZ hown (hw _ (List.mem_of_getElem? (i := 7) rfl)) (hw _ (List.mem_of_getElem? (i := 8) rfl)) (hw _ (List.mem_of_getElem? (i := 9) rfl)) e0 (g := (mkF m 1 #[.val (.ref a1)] [(.ref a1)])) rfl (by rw [hml]; rfl) rfl (hb hby d1_1) (by decide) (W := 0) (by show 2 * 0 + _ ≤ _; exact Nat.le_of_eq rfl) (by decide)
  have r3 : Steps p.tables e below S0 (T2.setTop (mkF m 4 #[.val (.ref a1)] [])) := r1.trans (st2 _ (Steps.refl _))
  obtain ⟨fs, hr, hrun, hended, hW, hsame⟩ := X2.leave (v := none) (fun _ => rfl)
  refine ⟨_, _, pre0 _ ?_, hrun, hended, _, _, rfl, ?_, ⟨_, rfl⟩, hW, hsame.mono (by decide) (by decide)⟩
  · rw [← hS0]
    refine r3.trans ?_
    show Steps p.tables e below (T2.setTop (mkF m 4 #[.val (.ref a1)] [])) _
    exact X2.returnOut hx Bd.returns (hb hby d1_4) hr
  · exact ⟨rfl, N0, e2⟩
theorem pn_3 : plainName "org/rowfold/aggregate/Moments" = true := by first | (simp [plainName, overriddenIn]; done) | decide +kernel
theorem ef_3 (m : MethodId) (x0 : Addr) (x1 : UInt64) : entryFrame m #[(.ref x0), (.double x1)] 5 = mkF m 0 #[.val (.ref x0), .val (.double x1), .second, .unset, .unset] [] := by first | (simp [entryFrame, mkF, argsToLocals, Value.category]; done) | rfl
def QmA (Z : State) (a1 : Addr) (u : UInt64) (cn : Int64) (me : UInt64) (sq : UInt64) (me2 : UInt64) (sq2 : UInt64) (h0 : Heap) (n0 : Nat) (v : Option Value) (h : Heap) (L : List Loc) : Prop := v = none ∧ Fr n0 L ∧ Keep h0 h [a1] ∧ Exa Z h a1 "org/rowfold/aggregate/Moments" ∧ Fld Z h a1 "org/rowfold/aggregate/Moments" "count" "J" (.long (cn + (1 : Int64))) ∧ Fld Z h a1 "org/rowfold/aggregate/Moments" "mean" "D" (.double me2) ∧ Fld Z h a1 "org/rowfold/aggregate/Moments" "squares" "D" (.double sq2)
set_option maxRecDepth 65536 in
set_option maxHeartbeats 40000000 in
theorem rmA (l : Launch) (Z : State) (a0 : Array Value) (hw : ∀ d ∈ tables_1, d.before a0 Z = true) (ws : List Jvm.Cond) (a1 : Addr) (u : UInt64) (cn : Int64) (me : UInt64) (sq : UInt64) (me2 : UInt64) (sq2 : UInt64) (h0 : Heap) (n0 : Nat) (Z0 : n0 ≤ h0.size) (Fc : Fld Z h0 a1 "org/rowfold/aggregate/Moments" "count" "J" (.long cn)) (Fm : Fld Z h0 a1 "org/rowfold/aggregate/Moments" "mean" "D" (.double me)) (Fs : Fld Z h0 a1 "org/rowfold/aggregate/Moments" "squares" "D" (.double sq)) (Ea : Exa Z h0 a1 "org/rowfold/aggregate/Moments") (g_a1 : n0 ≤ a1) (hA : AddS u me sq (cn + (1 : Int64)) me2 sq2) :
    MetFree l (⟨"org/rowfold/aggregate/Moments", "add", "(D)V"⟩ : MethodName) (head1 (Jvm.Cond.code (⟨"org/rowfold/aggregate/Moments", "add", "(D)V"⟩ : MethodName) prog_6_method_2_code 5 none :: ws) ({ frames := 0, cells := 0, slots := 0, locals := 0 } : Room)) (fun a U => a = #[(.ref a1), (.double u)] ∧ Z.Warmed39 U.vm ∧ U.heap = h0) (fun _ _ _ _ _ => True) (fun _ U o U' => ∃ v L, o = .returned v ∧ QmA Z a1 u cn me sq me2 sq2 h0 n0 v U'.heap L ∧ FrameEnd U o U' L ({ frames := 0, cells := 0, slots := 0, locals := 0 } : Room).cells ({ frames := 0, cells := 0, slots := 0, locals := 0 } : Room).slots) := by
  refine MetFree.of_bodySF (plainFor_of_name pn_3) hisR ?_
  intro p e s m args below meth c s₁ Bd hml0 hP hK
  obtain ⟨rfl, hZ, hh⟩ := hP
  have hx := Bd.exec
  have hby := Bd.bytes
  have hml : c.maxLocals = 5 := hml0
  have hown : s.vm.findClass "org/rowfold/aggregate/Moments" = some m.cls := findClass_of_methodNamed Bd.named
  have hnm := (name_of_methodNamed Bd.named Bd.method).1
  have X0 : Stand p l e ({ frames := 0, cells := 0, slots := 0, locals := 0 } : Room) s m #[(.ref a1), (.double u)] below meth c s₁ [] 0 0 := Stand.of_body Bd
  have e0 : s₁.heap = h0 := by rw [← hh, Bd.state]; rfl
  have N0 := Fr.nil n0
  have pre0 : ∀ t, Steps p.tables e below (s₁.setTop (mkF m 0 #[.val (.ref a1), .val (.double u), .second, .unset, .unset] [])) t → Steps p.tables e below (s₁.setTop (entryFrame m #[(.ref a1), (.double u)] 5)) t := fun t k => castTop (ef_3 m a1 u) k
  obtain ⟨S0, hS0⟩ : ∃ z, z = s₁.setTop (mkF m 0 #[.val (.ref a1), .val (.double u), .second, .unset, .unset] []) := ⟨_, rfl⟩
  have r0 : Steps p.tables e below S0 (s₁.setTop (mkF m 0 #[.val (.ref a1), .val (.double u), .second, .unset, .unset] [])) := by rw [hS0]; exact Steps.refl _
  obtain ⟨d1, d2, d4, d5, fe1, fn1, fe2, fn2, fe3, fn3, fe4, fn4, fe5, fn5, fe6, fn6⟩ := hA
  have K0 := Keep.refl h0 [a1]
  have r4 : Steps p.tables e below S0 (s₁.setTop (mkF m 2 #[.val (.ref a1), .val (.double u), .second, .unset, .unset] [(.ref a1), (.ref a1)])) := by
    refine r0.trans ?_
    show Steps p.tables e below (s₁.setTop (mkF m 0 #[.val (.ref a1), .val (.double u), .second, .unset, .unset] [])) _
    refine XS.aloadN X0.here hx rfl (hb hby d3_0) rfl rfl ?_
    show Steps p.tables e below (s₁.setTop (mkF m 1 #[.val (.ref a1), .val (.double u), .second, .unset, .unset] [(.ref a1)])) _
    refine XS.dup X0.here hx rfl (hb hby d3_1) rfl rfl ?_
    exact Steps.refl _
  obtain ⟨T5, X5, e5, st5⟩ := getF X0 hx hZ hown (host := "") (Or.inl (hw _ (List.mem_of_getElem? (i := 15) rfl))) Via.refl e0 Fc (g := (mkF m 2 #[.val (.ref a1), .val (.double u), .second, .unset, .unset] [(.ref a1), (.ref a1)])) rfl rfl (hb hby d3_2)
  have r6 : Steps p.tables e below S0 (T5.setTop (mkF m 5 #[.val (.ref a1), .val (.double u), .second, .unset, .unset] [(.long cn), (.ref a1)])) := r4.trans (st5 _ (Steps.refl _))
  have r7 : Steps p.tables e below S0 (T5.setTop (mkF m 7 #[.val (.ref a1), .val (.double u), .second, .unset, .unset] [(.long (cn + (1 : Int64))), (.ref a1)])) := by
    refine r6.trans ?_
    show Steps p.tables e below (T5.setTop (mkF m 5 #[.val (.ref a1), .val (.double u), .second, .unset, .unset] [(.long cn), (.ref a1)])) _
    refine XS.lconst X5.here hx rfl (hb hby d3_5) ?_
    show Steps p.tables e below (T5.setTop (mkF m 6 #[.val (.ref a1), .val (.double u), .second, .unset, .unset] [(.long (1 : Int64)), (.long cn), (.ref a1)])) _
    refine XS.ladd X5.here hx rfl (hb hby d3_6) rfl ?_
    exact Steps.refl _
  obtain ⟨T8, h8, X8, e8, W8, st8⟩ := putF X5 hx hZ hown (host := "") (Or.inl (hw _ (List.mem_of_getElem? (i := 15) rfl))) Via.refl e5 Fc Ea (Or.inl (hw _ (List.mem_of_getElem? (i := 16) rfl))) (hw _ (List.mem_of_getElem? (i := 2) rfl)) (ty := .long) (by decide) rfl rfl (g := (mkF m 7 #[.val (.ref a1), .val (.double u), .second, .unset, .unset] [(.long (cn + (1 : Int64))), (.ref a1)])) rfl rfl (hb hby d3_7)
  have N8 := Fr.snoc X8 N0 g_a1
  have F8_a1_count := Fc.same W8
  have F8_a1_mean := Fm.other W8 (Or.inr (slot_ne (a0 := a0) (Or.inl (hw _ (List.mem_of_getElem? (i := 18) rfl))) (Or.inl (hw _ (List.mem_of_getElem? (i := 16) rfl))) (by decide) (t := .double) (t' := .long) (by decide) (by decide)))
  have F8_a1_squares := Fs.other W8 (Or.inr (slot_ne (a0 := a0) (Or.inl (hw _ (List.mem_of_getElem? (i := 20) rfl))) (Or.inl (hw _ (List.mem_of_getElem? (i := 16) rfl))) (by decide) (t := .double) (t' := .long) (by decide) (by decide)))
  have E8_a1 := Ea.wr W8
  have Z8 : n0 ≤ h8.size := Nat.le_trans Z0 (Nat.le_of_eq W8.size.symm)
  have K8 := K0.wr W8 (Or.inl (List.mem_of_getElem? (i := 0) rfl))
  have r9 : Steps p.tables e below S0 (T8.setTop (mkF m 10 #[.val (.ref a1), .val (.double u), .second, .unset, .unset] [])) := r7.trans (st8 _ (Steps.refl _))
  have r10 : Steps p.tables e below S0 (T8.setTop (mkF m 12 #[.val (.ref a1), .val (.double u), .second, .unset, .unset] [(.ref a1), (.double u)])) := by
    refine r9.trans ?_
    show Steps p.tables e below (T8.setTop (mkF m 10 #[.val (.ref a1), .val (.double u), .second, .unset, .unset] [])) _
    refine XS.dloadN X8.here hx rfl (hb hby d3_10) rfl ?_
    show Steps p.tables e below (T8.setTop (mkF m 11 #[.val (.ref a1), .val (.double u), .second, .unset, .unset] [(.double u)])) _
    refine XS.aloadN X8.here hx rfl (hb hby d3_11) rfl rfl ?_
    exact Steps.refl _
  obtain ⟨T11, X11, e11, st11⟩ := getF X8 hx hZ hown (host := "") (Or.inl (hw _ (List.mem_of_getElem? (i := 17) rfl))) Via.refl e8 F8_a1_mean (g := (mkF m 12 #[.val (.ref a1), .val (.double u), .second, .unset, .unset] [(.ref a1), (.double u)])) rfl rfl (hb hby d3_12)
  have r12 : Steps p.tables e below S0 (T11.setTop (mkF m 15 #[.val (.ref a1), .val (.double u), .second, .unset, .unset] [(.double me), (.double u)])) := r10.trans (st11 _ (Steps.refl _))
  have r13 : Steps p.tables e below S0 (T11.setTop (mkF m 19 #[.val (.ref a1), .val (.double u), .second, .val (.double d1), .second] [(.ref a1), (.ref a1)])) := by
    refine r12.trans ?_
    show Steps p.tables e below (T11.setTop (mkF m 15 #[.val (.ref a1), .val (.double u), .second, .unset, .unset] [(.double me), (.double u)])) _
    refine XS.dsubS X11.here hx rfl (hb hby d3_15) rfl (by rw [fe1]; exact fn1) fe1 ?_
    show Steps p.tables e below (T11.setTop (mkF m 16 #[.val (.ref a1), .val (.double u), .second, .unset, .unset] [(.double d1)])) _
    refine XS.dstoreN X11.here hx rfl (hb hby d3_16) rfl (l' := #[.val (.ref a1), .val (.double u), .second, .val (.double d1), .second]) rfl ?_
    show Steps p.tables e below (T11.setTop (mkF m 17 #[.val (.ref a1), .val (.double u), .second, .val (.double d1), .second] [])) _
    refine XS.aloadN X11.here hx rfl (hb hby d3_17) rfl rfl ?_
    show Steps p.tables e below (T11.setTop (mkF m 18 #[.val (.ref a1), .val (.double u), .second, .val (.double d1), .second] [(.ref a1)])) _
    refine XS.dup X11.here hx rfl (hb hby d3_18) rfl rfl ?_
    exact Steps.refl _
  obtain ⟨T14, X14, e14, st14⟩ := getF X11 hx hZ hown (host := "") (Or.inl (hw _ (List.mem_of_getElem? (i := 17) rfl))) Via.refl e11 F8_a1_mean (g := (mkF m 19 #[.val (.ref a1), .val (.double u), .second, .val (.double d1), .second] [(.ref a1), (.ref a1)])) rfl rfl (hb hby d3_19)
  have r15 : Steps p.tables e below S0 (T14.setTop (mkF m 22 #[.val (.ref a1), .val (.double u), .second, .val (.double d1), .second] [(.double me), (.ref a1)])) := r13.trans (st14 _ (Steps.refl _))
  have r16 : Steps p.tables e below S0 (T14.setTop (mkF m 24 #[.val (.ref a1), .val (.double u), .second, .val (.double d1), .second] [(.ref a1), (.double d1), (.double me), (.ref a1)])) := by
    refine r15.trans ?_
    show Steps p.tables e below (T14.setTop (mkF m 22 #[.val (.ref a1), .val (.double u), .second, .val (.double d1), .second] [(.double me), (.ref a1)])) _
    refine XS.dloadN X14.here hx rfl (hb hby d3_22) rfl ?_
    show Steps p.tables e below (T14.setTop (mkF m 23 #[.val (.ref a1), .val (.double u), .second, .val (.double d1), .second] [(.double d1), (.double me), (.ref a1)])) _
    refine XS.aloadN X14.here hx rfl (hb hby d3_23) rfl rfl ?_
    exact Steps.refl _
  obtain ⟨T17, X17, e17, st17⟩ := getF X14 hx hZ hown (host := "") (Or.inl (hw _ (List.mem_of_getElem? (i := 15) rfl))) Via.refl e14 F8_a1_count (g := (mkF m 24 #[.val (.ref a1), .val (.double u), .second, .val (.double d1), .second] [(.ref a1), (.double d1), (.double me), (.ref a1)])) rfl rfl (hb hby d3_24)
  have r18 : Steps p.tables e below S0 (T17.setTop (mkF m 27 #[.val (.ref a1), .val (.double u), .second, .val (.double d1), .second] [(.long (cn + (1 : Int64))), (.double d1), (.double me), (.ref a1)])) := r16.trans (st17 _ (Steps.refl _))
  have r19 : Steps p.tables e below S0 (T17.setTop (mkF m 30 #[.val (.ref a1), .val (.double u), .second, .val (.double d1), .second] [(.double me2), (.ref a1)])) := by
    refine r18.trans ?_
    show Steps p.tables e below (T17.setTop (mkF m 27 #[.val (.ref a1), .val (.double u), .second, .val (.double d1), .second] [(.long (cn + (1 : Int64))), (.double d1), (.double me), (.ref a1)])) _
    refine XS.l2dS X17.here hx rfl (hb hby d3_27) rfl rfl ?_
    show Steps p.tables e below (T17.setTop (mkF m 28 #[.val (.ref a1), .val (.double u), .second, .val (.double d1), .second] [(.double (FP.l2d (cn + (1 : Int64)))), (.double d1), (.double me), (.ref a1)])) _
    refine XS.ddivS X17.here hx rfl (hb hby d3_28) rfl (by rw [fe2]; exact fn2) fe2 ?_
    show Steps p.tables e below (T17.setTop (mkF m 29 #[.val (.ref a1), .val (.double u), .second, .val (.double d1), .second] [(.double d2), (.double me), (.ref a1)])) _
    refine XS.daddS X17.here hx rfl (hb hby d3_29) rfl (by rw [fe3]; exact fn3) fe3 ?_
    exact Steps.refl _
  obtain ⟨T20, h20, X20, e20, W20, st20⟩ := putF X17 hx hZ hown (host := "") (Or.inl (hw _ (List.mem_of_getElem? (i := 17) rfl))) Via.refl e17 F8_a1_mean E8_a1 (Or.inl (hw _ (List.mem_of_getElem? (i := 18) rfl))) (hw _ (List.mem_of_getElem? (i := 2) rfl)) (ty := .double) (by decide) rfl rfl (g := (mkF m 30 #[.val (.ref a1), .val (.double u), .second, .val (.double d1), .second] [(.double me2), (.ref a1)])) rfl rfl (hb hby d3_30)
  have N20 := Fr.snoc X20 N8 g_a1
  have F20_a1_count := F8_a1_count.other W20 (Or.inr (slot_ne (a0 := a0) (Or.inl (hw _ (List.mem_of_getElem? (i := 16) rfl))) (Or.inl (hw _ (List.mem_of_getElem? (i := 18) rfl))) (by decide) (t := .long) (t' := .double) (by decide) (by decide)))
  have F20_a1_mean := F8_a1_mean.same W20
  have F20_a1_squares := F8_a1_squares.other W20 (Or.inr (slot_ne (a0 := a0) (Or.inl (hw _ (List.mem_of_getElem? (i := 20) rfl))) (Or.inl (hw _ (List.mem_of_getElem? (i := 18) rfl))) (by decide) (t := .double) (t' := .double) (by decide) (by decide)))
  have E20_a1 := E8_a1.wr W20
  have Z20 : n0 ≤ h20.size := Nat.le_trans Z8 (Nat.le_of_eq W20.size.symm)
  have K20 := K8.wr W20 (Or.inl (List.mem_of_getElem? (i := 0) rfl))
  have r21 : Steps p.tables e below S0 (T20.setTop (mkF m 33 #[.val (.ref a1), .val (.double u), .second, .val (.double d1), .second] [])) := r19.trans (st20 _ (Steps.refl _))
  have r22 : Steps p.tables e below S0 (T20.setTop (mkF m 35 #[.val (.ref a1), .val (.double u), .second, .val (.double d1), .second] [(.ref a1), (.ref a1)])) := by
    refine r21.trans ?_
    show Steps p.tables e below (T20.setTop (mkF m 33 #[.val (.ref a1), .val (.double u), .second, .val (.double d1), .second] [])) _
    refine XS.aloadN X20.here hx rfl (hb hby d3_33) rfl rfl ?_
    show Steps p.tables e below (T20.setTop (mkF m 34 #[.val (.ref a1), .val (.double u), .second, .val (.double d1), .second] [(.ref a1)])) _
    refine XS.dup X20.here hx rfl (hb hby d3_34) rfl rfl ?_
    exact Steps.refl _
  obtain ⟨T23, X23, e23, st23⟩ := getF X20 hx hZ hown (host := "") (Or.inl (hw _ (List.mem_of_getElem? (i := 19) rfl))) Via.refl e20 F20_a1_squares (g := (mkF m 35 #[.val (.ref a1), .val (.double u), .second, .val (.double d1), .second] [(.ref a1), (.ref a1)])) rfl rfl (hb hby d3_35)
  have r24 : Steps p.tables e below S0 (T23.setTop (mkF m 38 #[.val (.ref a1), .val (.double u), .second, .val (.double d1), .second] [(.double sq), (.ref a1)])) := r22.trans (st23 _ (Steps.refl _))
  have r25 : Steps p.tables e below S0 (T23.setTop (mkF m 41 #[.val (.ref a1), .val (.double u), .second, .val (.double d1), .second] [(.ref a1), (.double u), (.double d1), (.double sq), (.ref a1)])) := by
    refine r24.trans ?_
    show Steps p.tables e below (T23.setTop (mkF m 38 #[.val (.ref a1), .val (.double u), .second, .val (.double d1), .second] [(.double sq), (.ref a1)])) _
    refine XS.dloadN X23.here hx rfl (hb hby d3_38) rfl ?_
    show Steps p.tables e below (T23.setTop (mkF m 39 #[.val (.ref a1), .val (.double u), .second, .val (.double d1), .second] [(.double d1), (.double sq), (.ref a1)])) _
    refine XS.dloadN X23.here hx rfl (hb hby d3_39) rfl ?_
    show Steps p.tables e below (T23.setTop (mkF m 40 #[.val (.ref a1), .val (.double u), .second, .val (.double d1), .second] [(.double u), (.double d1), (.double sq), (.ref a1)])) _
    refine XS.aloadN X23.here hx rfl (hb hby d3_40) rfl rfl ?_
    exact Steps.refl _
  obtain ⟨T26, X26, e26, st26⟩ := getF X23 hx hZ hown (host := "") (Or.inl (hw _ (List.mem_of_getElem? (i := 17) rfl))) Via.refl e23 F20_a1_mean (g := (mkF m 41 #[.val (.ref a1), .val (.double u), .second, .val (.double d1), .second] [(.ref a1), (.double u), (.double d1), (.double sq), (.ref a1)])) rfl rfl (hb hby d3_41)
  have r27 : Steps p.tables e below S0 (T26.setTop (mkF m 44 #[.val (.ref a1), .val (.double u), .second, .val (.double d1), .second] [(.double me2), (.double u), (.double d1), (.double sq), (.ref a1)])) := r25.trans (st26 _ (Steps.refl _))
  have r28 : Steps p.tables e below S0 (T26.setTop (mkF m 47 #[.val (.ref a1), .val (.double u), .second, .val (.double d1), .second] [(.double sq2), (.ref a1)])) := by
    refine r27.trans ?_
    show Steps p.tables e below (T26.setTop (mkF m 44 #[.val (.ref a1), .val (.double u), .second, .val (.double d1), .second] [(.double me2), (.double u), (.double d1), (.double sq), (.ref a1)])) _
    refine XS.dsubS X26.here hx rfl (hb hby d3_44) rfl (by rw [fe4]; exact fn4) fe4 ?_
    show Steps p.tables e below (T26.setTop (mkF m 45 #[.val (.ref a1), .val (.double u), .second, .val (.double d1), .second] [(.double d4), (.double d1), (.double sq), (.ref a1)])) _
    refine XS.dmulS X26.here hx rfl (hb hby d3_45) rfl (by rw [fe5]; exact fn5) fe5 ?_
    show Steps p.tables e below (T26.setTop (mkF m 46 #[.val (.ref a1), .val (.double u), .second, .val (.double d1), .second] [(.double d5), (.double sq), (.ref a1)])) _
    refine XS.daddS X26.here hx rfl (hb hby d3_46) rfl (by rw [fe6]; exact fn6) fe6 ?_
    exact Steps.refl _
  obtain ⟨T29, h29, X29, e29, W29, st29⟩ := putF X26 hx hZ hown (host := "") (Or.inl (hw _ (List.mem_of_getElem? (i := 19) rfl))) Via.refl e26 F20_a1_squares E20_a1 (Or.inl (hw _ (List.mem_of_getElem? (i := 20) rfl))) (hw _ (List.mem_of_getElem? (i := 2) rfl)) (ty := .double) (by decide) rfl rfl (g := (mkF m 47 #[.val (.ref a1), .val (.double u), .second, .val (.double d1), .second] [(.double sq2), (.ref a1)])) rfl rfl (hb hby d3_47)
  have N29 := Fr.snoc X29 N20 g_a1
  have F29_a1_count := F20_a1_count.other W29 (Or.inr (slot_ne (a0 := a0) (Or.inl (hw _ (List.mem_of_getElem? (i := 16) rfl))) (Or.inl (hw _ (List.mem_of_getElem? (i := 20) rfl))) (by decide) (t := .long) (t' := .double) (by decide) (by decide)))
  have F29_a1_mean := F20_a1_mean.other W29 (Or.inr (slot_ne (a0 := a0) (Or.inl (hw _ (List.mem_of_getElem? (i := 18) rfl))) (Or.inl (hw _ (List.mem_of_getElem? (i := 20) rfl))) (by decide) (t := .double) (t' := .double) (by decide) (by decide)))
  have F29_a1_squares := F20_a1_squares.same W29
  have E29_a1 := E20_a1.wr W29
  have Z29 : n0 ≤ h29.size := Nat.le_trans Z20 (Nat.le_of_eq W29.size.symm)
  have K29 := K20.wr W29 (Or.inl (List.mem_of_getElem? (i := 0) rfl))
  have r30 : Steps p.tables e below S0 (T29.setTop (mkF m 50 #[.val (.ref a1), .val (.double u), .second, .val (.double d1), .second] [])) := r28.trans (st29 _ (Steps.refl _))
  obtain ⟨fs, hr, hrun, hended, hW, hsame⟩ := X29.leave (v := none) (fun _ => rfl)
  refine ⟨_, _, pre0 _ ?_, hrun, hended, _, _, rfl, ?_, ⟨_, rfl⟩, hW, hsame.mono (by decide) (by decide)⟩
  · rw [← hS0]
    refine r30.trans ?_
    show Steps p.tables e below (T29.setTop (mkF m 50 #[.val (.ref a1), .val (.double u), .second, .val (.double d1), .second] [])) _
    exact X29.returnOut hx Bd.returns (hb hby d3_50) hr
  · show QmA Z a1 u cn me sq me2 sq2 h0 n0 _ T29.heap _; rw [e29]; exact ⟨rfl, N29, K29, E29_a1, F29_a1_count, F29_a1_mean, F29_a1_squares⟩
theorem pn_6 : plainName "java/util/OptionalDouble" = true := by first | (simp [plainName, overriddenIn]; done) | decide +kernel
theorem ef_6 (m : MethodId) (x0 : Addr) (x1 : UInt64) : entryFrame m #[(.ref x0), (.double x1)] 3 = mkF m 0 #[.val (.ref x0), .val (.double x1), .second] [] := by first | (simp [entryFrame, mkF, argsToLocals, Value.category]; done) | rfl
def QmO (Z : State) (a1 : Addr) (u : UInt64)  (h0 : Heap) (n0 : Nat) (v : Option Value) (h : Heap) (L : List Loc) : Prop := v = none ∧ Fr n0 L ∧ Keep h0 h [a1] ∧ Exa Z h a1 "java/util/OptionalDouble" ∧ Fld Z h a1 "java/util/OptionalDouble" "isPresent" "Z" (.int (1 : Int32)) ∧ Fld Z h a1 "java/util/OptionalDouble" "value" "D" (.double u)
set_option maxRecDepth 65536 in
set_option maxHeartbeats 40000000 in
theorem rmO (l : Launch) (Z : State) (a0 : Array Value) (hw : ∀ d ∈ tables_1, d.before a0 Z = true) (ws : List Jvm.Cond) (a1 : Addr) (u : UInt64)  (h0 : Heap) (n0 : Nat) (Z0 : n0 ≤ h0.size) (Fp : Fld Z h0 a1 "java/util/OptionalDouble" "isPresent" "Z" (.int (0 : Int32))) (Fv : Fld Z h0 a1 "java/util/OptionalDouble" "value" "D" (.double (0 : UInt64))) (Ea : Exa Z h0 a1 "java/util/OptionalDouble") (g_a1 : n0 ≤ a1) :
    MetFree l (⟨"java/util/OptionalDouble", "<init>", "(D)V"⟩ : MethodName) (head1 (Jvm.Cond.code (⟨"java/util/OptionalDouble", "<init>", "(D)V"⟩ : MethodName) jdk_2648_method_3_code 3 none :: ws) ({ frames := 1, cells := 0, slots := 0, locals := 12 } : Room)) (fun a U => a = #[(.ref a1), (.double u)] ∧ Z.Warmed39 U.vm ∧ U.heap = h0) (fun _ _ _ _ _ => True) (fun _ U o U' => ∃ v L, o = .returned v ∧ QmO Z a1 u h0 n0 v U'.heap L ∧ FrameEnd U o U' L ({ frames := 1, cells := 0, slots := 0, locals := 12 } : Room).cells ({ frames := 1, cells := 0, slots := 0, locals := 12 } : Room).slots) := by
  refine MetFree.of_bodySF (plainFor_of_name pn_6) hisR ?_
  intro p e s m args below meth c s₁ Bd hml0 hP hK
  obtain ⟨rfl, hZ, hh⟩ := hP
  have hx := Bd.exec
  have hby := Bd.bytes
  have hml : c.maxLocals = 3 := hml0
  have hown : s.vm.findClass "java/util/OptionalDouble" = some m.cls := findClass_of_methodNamed Bd.named
  have hnm := (name_of_methodNamed Bd.named Bd.method).1
  have X0 : Stand p l e ({ frames := 1, cells := 0, slots := 0, locals := 12 } : Room) s m #[(.ref a1), (.double u)] below meth c s₁ [] 0 0 := Stand.of_body Bd
  have e0 : s₁.heap = h0 := by rw [← hh, Bd.state]; rfl
  have N0 := Fr.nil n0
  have pre0 : ∀ t, Steps p.tables e below (s₁.setTop (mkF m 0 #[.val (.ref a1), .val (.double u), .second] [])) t → Steps p.tables e below (s₁.setTop (entryFrame m #[(.ref a1), (.double u)] 3)) t := fun t k => castTop (ef_6 m a1 u) k
  obtain ⟨S0, hS0⟩ : ∃ z, z = s₁.setTop (mkF m 0 #[.val (.ref a1), .val (.double u), .second] []) := ⟨_, rfl⟩
  have r0 : Steps p.tables e below S0 (s₁.setTop (mkF m 0 #[.val (.ref a1), .val (.double u), .second] [])) := by rw [hS0]; exact Steps.refl _
  have K0 := Keep.refl h0 [a1]
  have r31 : Steps p.tables e below S0 (s₁.setTop (mkF m 1 #[.val (.ref a1), .val (.double u), .second] [(.ref a1)])) := by
    refine r0.trans ?_
    show Steps p.tables e below (s₁.setTop (mkF m 0 #[.val (.ref a1), .val (.double u), .second] [])) _
    refine XS.aloadN X0.here hx rfl (hb hby d6_0) rfl rfl ?_
    exact Steps.refl _
  obtain ⟨T32, X32, e32, st32⟩ := initO X0 hx hZ hown (hw _ (List.mem_of_getElem? (i := 36) rfl)) (hw _ (List.mem_of_getElem? (i := 8) rfl)) (hw _ (List.mem_of_getElem? (i := 9) rfl)) e0 (g := (mkF m 1 #[.val (.ref a1), .val (.double u), .second] [(.ref a1)])) rfl (by rw [hml]; rfl) rfl (hb hby d6_1) (by decide) (W := 0) (by show 2 * 0 + _ ≤ _; exact Nat.le_of_eq rfl) (by decide)
  have r33 : Steps p.tables e below S0 (T32.setTop (mkF m 4 #[.val (.ref a1), .val (.double u), .second] [])) := r31.trans (st32 _ (Steps.refl _))
  have r34 : Steps p.tables e below S0 (T32.setTop (mkF m 6 #[.val (.ref a1), .val (.double u), .second] [(.int (1 : Int32)), (.ref a1)])) := by
    refine r33.trans ?_
    show Steps p.tables e below (T32.setTop (mkF m 4 #[.val (.ref a1), .val (.double u), .second] [])) _
    refine XS.aloadN X32.here hx rfl (hb hby d6_4) rfl rfl ?_
    show Steps p.tables e below (T32.setTop (mkF m 5 #[.val (.ref a1), .val (.double u), .second] [(.ref a1)])) _
    refine XS.iconst X32.here hx rfl (hb hby d6_5) ?_
    exact Steps.refl _
  obtain ⟨T35, h35, X35, e35, W35, st35⟩ := putF X32 hx hZ hown (host := "") (Or.inl (hw _ (List.mem_of_getElem? (i := 37) rfl))) Via.refl e32 Fp Ea (Or.inr ⟨(hw _ (List.mem_of_getElem? (i := 38) rfl)), rfl, hnm⟩) (hw _ (List.mem_of_getElem? (i := 31) rfl)) (ty := .boolean) (by decide) rfl rfl (g := (mkF m 6 #[.val (.ref a1), .val (.double u), .second] [(.int (1 : Int32)), (.ref a1)])) rfl rfl (hb hby d6_6)
  have N35 := Fr.snoc X35 N0 g_a1
  have F35_a1_isPresent := Fp.same W35
  have F35_a1_value := Fv.other W35 (Or.inr (slot_ne (a0 := a0) (Or.inr (hw _ (List.mem_of_getElem? (i := 40) rfl))) (Or.inr (hw _ (List.mem_of_getElem? (i := 38) rfl))) (by decide) (t := .double) (t' := .boolean) (by decide) (by decide)))
  have E35_a1 := Ea.wr W35
  have Z35 : n0 ≤ h35.size := Nat.le_trans Z0 (Nat.le_of_eq W35.size.symm)
  have K35 := K0.wr W35 (Or.inl (List.mem_of_getElem? (i := 0) rfl))
  have r36 : Steps p.tables e below S0 (T35.setTop (mkF m 9 #[.val (.ref a1), .val (.double u), .second] [])) := r34.trans (st35 _ (Steps.refl _))
  have r37 : Steps p.tables e below S0 (T35.setTop (mkF m 11 #[.val (.ref a1), .val (.double u), .second] [(.double u), (.ref a1)])) := by
    refine r36.trans ?_
    show Steps p.tables e below (T35.setTop (mkF m 9 #[.val (.ref a1), .val (.double u), .second] [])) _
    refine XS.aloadN X35.here hx rfl (hb hby d6_9) rfl rfl ?_
    show Steps p.tables e below (T35.setTop (mkF m 10 #[.val (.ref a1), .val (.double u), .second] [(.ref a1)])) _
    refine XS.dloadN X35.here hx rfl (hb hby d6_10) rfl ?_
    exact Steps.refl _
  obtain ⟨T38, h38, X38, e38, W38, st38⟩ := putF X35 hx hZ hown (host := "") (Or.inl (hw _ (List.mem_of_getElem? (i := 39) rfl))) Via.refl e35 F35_a1_value E35_a1 (Or.inr ⟨(hw _ (List.mem_of_getElem? (i := 40) rfl)), rfl, hnm⟩) (hw _ (List.mem_of_getElem? (i := 31) rfl)) (ty := .double) (by decide) rfl rfl (g := (mkF m 11 #[.val (.ref a1), .val (.double u), .second] [(.double u), (.ref a1)])) rfl rfl (hb hby d6_11)
  have N38 := Fr.snoc X38 N35 g_a1
  have F38_a1_isPresent := F35_a1_isPresent.other W38 (Or.inr (slot_ne (a0 := a0) (Or.inr (hw _ (List.mem_of_getElem? (i := 38) rfl))) (Or.inr (hw _ (List.mem_of_getElem? (i := 40) rfl))) (by decide) (t := .boolean) (t' := .double) (by decide) (by decide)))
  have F38_a1_value := F35_a1_value.same W38
  have E38_a1 := E35_a1.wr W38
  have Z38 : n0 ≤ h38.size := Nat.le_trans Z35 (Nat.le_of_eq W38.size.symm)
  have K38 := K35.wr W38 (Or.inl (List.mem_of_getElem? (i := 0) rfl))
  have r39 : Steps p.tables e below S0 (T38.setTop (mkF m 14 #[.val (.ref a1), .val (.double u), .second] [])) := r37.trans (st38 _ (Steps.refl _))
  obtain ⟨fs, hr, hrun, hended, hW, hsame⟩ := X38.leave (v := none) (fun _ => rfl)
  refine ⟨_, _, pre0 _ ?_, hrun, hended, _, _, rfl, ?_, ⟨_, rfl⟩, hW, hsame.mono (by decide) (by decide)⟩
  · rw [← hS0]
    refine r39.trans ?_
    show Steps p.tables e below (T38.setTop (mkF m 14 #[.val (.ref a1), .val (.double u), .second] [])) _
    exact X38.returnOut hx Bd.returns (hb hby d6_14) hr
  · show QmO Z a1 u h0 n0 _ T38.heap _; rw [e38]; exact ⟨rfl, N38, K38, E38_a1, F38_a1_isPresent, F38_a1_value⟩
theorem pn_5 : plainName "java/util/OptionalDouble" = true := by first | (simp [plainName, overriddenIn]; done) | decide +kernel
theorem ef_5 (m : MethodId) (x0 : UInt64) : entryFrame m #[(.double x0)] 2 = mkF m 0 #[.val (.double x0), .second] [] := by first | (simp [entryFrame, mkF, argsToLocals, Value.category]; done) | rfl
def QmF (Z : State) (u : UInt64)  (h0 : Heap) (n0 : Nat) (v : Option Value) (h : Heap) (L : List Loc) : Prop := ∃ b : Addr, v = some (.ref b) ∧ h0.size ≤ b ∧ Exa Z h b "java/util/OptionalDouble" ∧ Fld Z h b "java/util/OptionalDouble" "isPresent" "Z" (.int (1 : Int32)) ∧ Fld Z h b "java/util/OptionalDouble" "value" "D" (.double u) ∧ Keep h0 h [] ∧ Fr n0 L
set_option maxRecDepth 65536 in
set_option maxHeartbeats 40000000 in
theorem rmF (l : Launch) (Z : State) (a0 : Array Value) (hw : ∀ d ∈ tables_1, d.before a0 Z = true) (ws : List Jvm.Cond) (u : UInt64)  (h0 : Heap) (n0 : Nat) (Z0 : n0 ≤ h0.size)  :
    MetFree l (⟨"java/util/OptionalDouble", "of", "(D)Ljava/util/OptionalDouble;"⟩ : MethodName) (head1 (Jvm.Cond.code (⟨"java/util/OptionalDouble", "of", "(D)Ljava/util/OptionalDouble;"⟩ : MethodName) jdk_2648_method_4_code 2 (some (.object "java/util/OptionalDouble")) :: ws) ({ frames := 2, cells := 1, slots := 2, locals := 27 } : Room)) (fun a U => a = #[(.double u)] ∧ Z.Warmed39 U.vm ∧ U.heap = h0) (fun _ _ _ _ _ => True) (fun _ U o U' => ∃ v L, o = .returned v ∧ QmF Z u h0 n0 v U'.heap L ∧ FrameEnd U o U' L ({ frames := 2, cells := 1, slots := 2, locals := 27 } : Room).cells ({ frames := 2, cells := 1, slots := 2, locals := 27 } : Room).slots) := by
  refine MetFree.of_bodySF (plainFor_of_name pn_5) hisR ?_
  intro p e s m args below meth c s₁ Bd hml0 hP hK
  obtain ⟨rfl, hZ, hh⟩ := hP
  have hx := Bd.exec
  have hby := Bd.bytes
  have hml : c.maxLocals = 2 := hml0
  have hown : s.vm.findClass "java/util/OptionalDouble" = some m.cls := findClass_of_methodNamed Bd.named
  have hnm := (name_of_methodNamed Bd.named Bd.method).1
  have X0 : Stand p l e ({ frames := 2, cells := 1, slots := 2, locals := 27 } : Room) s m #[(.double u)] below meth c s₁ [] 0 0 := Stand.of_body Bd
  have e0 : s₁.heap = h0 := by rw [← hh, Bd.state]; rfl
  have N0 := Fr.nil n0
  have pre0 : ∀ t, Steps p.tables e below (s₁.setTop (mkF m 0 #[.val (.double u), .second] [])) t → Steps p.tables e below (s₁.setTop (entryFrame m #[(.double u)] 2)) t := fun t k => castTop (ef_5 m u) k
  obtain ⟨S0, hS0⟩ : ∃ z, z = s₁.setTop (mkF m 0 #[.val (.double u), .second] []) := ⟨_, rfl⟩
  have r0 : Steps p.tables e below S0 (s₁.setTop (mkF m 0 #[.val (.double u), .second] [])) := by rw [hS0]; exact Steps.refl _
  have K0 := Keep.refl h0 []
  obtain ⟨T40, h40, X40, e40, E40, A40, D40, -, st40⟩ := newO X0 hx hZ hown (hw _ (List.mem_of_getElem? (i := 30) rfl)) (hw _ (List.mem_of_getElem? (i := 31) rfl)) (hw _ (List.mem_of_getElem? (i := 28) rfl)) e0 (g := (mkF m 0 #[.val (.double u), .second] [])) rfl (hb hby d5_0) (by decide) (by decide)
  obtain ⟨b1, g40⟩ : ∃ z, z = h0.size := ⟨_, rfl⟩
  rw [← g40] at A40 D40 st40
  have g_b1 : n0 ≤ b1 := Nat.le_trans Z0 (Nat.le_of_eq g40.symm)
  have sz_b1 : h0.size ≤ b1 := Nat.le_trans K0.1 (Nat.le_of_eq g40.symm)
  have Z40 : n0 ≤ h40.size := Nat.le_trans Z0 E40.1
  have K40 := K0.ext E40
  have F_b1_isPresent : Fld Z h40 b1 "java/util/OptionalDouble" "isPresent" "Z" (.int (0 : Int32)) := D40 (Or.inr (hw _ (List.mem_of_getElem? (i := 38) rfl))) (ty := .boolean) (by decide)
  have F_b1_value : Fld Z h40 b1 "java/util/OptionalDouble" "value" "D" (.double (0 : UInt64)) := D40 (Or.inr (hw _ (List.mem_of_getElem? (i := 40) rfl))) (ty := .double) (by decide)
  have r41 : Steps p.tables e below S0 (T40.setTop (mkF m 3 #[.val (.double u), .second] [(.ref b1)])) := r0.trans (st40 _ (Steps.refl _))
  have r42 : Steps p.tables e below S0 (T40.setTop (mkF m 5 #[.val (.double u), .second] [(.double u), (.ref b1), (.ref b1)])) := by
    refine r41.trans ?_
    show Steps p.tables e below (T40.setTop (mkF m 3 #[.val (.double u), .second] [(.ref b1)])) _
    refine XS.dup X40.here hx rfl (hb hby d5_3) rfl rfl ?_
    show Steps p.tables e below (T40.setTop (mkF m 4 #[.val (.double u), .second] [(.ref b1), (.ref b1)])) _
    refine XS.dloadN X40.here hx rfl (hb hby d5_4) rfl ?_
    exact Steps.refl _
  obtain ⟨_, _, ⟨T43, L43, k43, n43⟩, -, X43, ⟨Lc43, hQ43, l43, y43, z43⟩, st43⟩ := X40.specialBack hx (y := (⟨"java/util/OptionalDouble", "<init>", "(D)V"⟩ : MethodName)) rfl hown (mvT hZ (hw _ (List.mem_of_getElem? (i := 32) rfl))) (mvT hZ (hw _ (List.mem_of_getElem? (i := 33) rfl))) (mvT hZ (hw _ (List.mem_of_getElem? (i := 35) rfl))) (by decide) (backOf (W := 1) (rmO l Z a0 hw [] b1 u h40 n0 Z40 F_b1_isPresent F_b1_value A40 g_b1) hZ (hw _ (List.mem_of_getElem? (i := 35) rfl)) (hw _ (List.mem_of_getElem? (i := 28) rfl)) (by decide) (by decide)) (g := (mkF m 5 #[.val (.double u), .second] [(.double u), (.ref b1), (.ref b1)])) rfl (by rw [hml]; rfl) (Steps.refl _) (a := b1) (argsL := [(.double u)]) (rest := [(.ref b1)]) (lenOf pd_0 rfl) rfl (by show 2 * 0 + _ ≤ _; exact Nat.le_of_eq rfl) (hb hby d5_5) (fun _ _ => ⟨rfl, e40, (by decide : (0 + 1) + 0 ≤ _), (by decide : (0 + 2) + 0 ≤ _)⟩)
  dsimp only [Pt.U, Pt.locs, Pt.cells, Pt.slots] at X43 l43 y43 z43 st43 hQ43
  subst l43 y43 z43
  obtain ⟨rfl, Nq43, Kc43, Ec43, Fp43, Fv43⟩ := hQ43
  have N43 := Fr.app N0 Nq43
  have r44 : Steps p.tables e below S0 (T43.setTop (mkF m 8 #[.val (.double u), .second] [(.ref b1)])) := r42.trans st43
  have E43_b1 := A40.keep Kc43
  have Z43 : n0 ≤ T43.heap.size := Nat.le_trans Z40 Kc43.1
  have K43 := K40.trans Kc43 (allS (Or.inr sz_b1) (all0))
  obtain ⟨fs, hr, hrun, hended, hW, hsame⟩ := X43.leave (v := some (.ref b1)) (fun h => by rw [Bd.returns] at h; cases h)
  refine ⟨_, _, pre0 _ ?_, hrun, hended, _, _, rfl, ?_, ⟨_, rfl⟩, hW, hsame.mono (by decide) (by decide)⟩
  · rw [← hS0]
    refine r44.trans ?_
    show Steps p.tables e below (T43.setTop (mkF m 8 #[.val (.double u), .second] [(.ref b1)])) _
    jvm_step X43.here [X43.here.top, hx, (hb hby d5_8), X43.method', Bd.returns, Value.isRef, FieldType.isReference]
    first | (intro acts; rw [hr _ acts rfl rfl rfl]) | rw [hr _ _ rfl rfl rfl]
    exact Steps.refl _
  · exact ⟨b1, rfl, sz_b1, Ec43, Fp43, Fv43, K43, N43⟩
theorem pn_9 : plainName "java/util/OptionalDouble" = true := by first | (simp [plainName, overriddenIn]; done) | decide +kernel
theorem ef_9 (m : MethodId)  : entryFrame m #[] 0 = mkF m 0 #[] [] := by first | (simp [entryFrame, mkF, argsToLocals, Value.category]; done) | rfl
def QmE (Z : State)  (w : Addr) (h0 : Heap) (n0 : Nat) (v : Option Value) (h : Heap) (L : List Loc) : Prop := v = some (.ref w) ∧ Fr n0 L ∧ h = h0
set_option maxRecDepth 65536 in
set_option maxHeartbeats 40000000 in
theorem rmE (l : Launch) (Z : State) (a0 : Array Value) (hw : ∀ d ∈ tables_1, d.before a0 Z = true) (ws : List Jvm.Cond)  (w : Addr) (h0 : Heap) (n0 : Nat) (Z0 : n0 ≤ h0.size) (Sw : Sta Z h0 "java/util/OptionalDouble" "EMPTY" "Ljava/util/OptionalDouble;" (.ref w)) :
    MetFree l (⟨"java/util/OptionalDouble", "empty", "()Ljava/util/OptionalDouble;"⟩ : MethodName) (head1 (Jvm.Cond.code (⟨"java/util/OptionalDouble", "empty", "()Ljava/util/OptionalDouble;"⟩ : MethodName) jdk_2648_method_2_code 0 (some (.object "java/util/OptionalDouble")) :: ws) ({ frames := 0, cells := 0, slots := 0, locals := 0 } : Room)) (fun a U => a = #[] ∧ Z.Warmed39 U.vm ∧ U.heap = h0) (fun _ _ _ _ _ => True) (fun _ U o U' => ∃ v L, o = .returned v ∧ QmE Z w h0 n0 v U'.heap L ∧ FrameEnd U o U' L ({ frames := 0, cells := 0, slots := 0, locals := 0 } : Room).cells ({ frames := 0, cells := 0, slots := 0, locals := 0 } : Room).slots) := by
  refine MetFree.of_bodySF (plainFor_of_name pn_9) hisR ?_
  intro p e s m args below meth c s₁ Bd hml0 hP hK
  obtain ⟨rfl, hZ, hh⟩ := hP
  have hx := Bd.exec
  have hby := Bd.bytes
  have hml : c.maxLocals = 0 := hml0
  have hown : s.vm.findClass "java/util/OptionalDouble" = some m.cls := findClass_of_methodNamed Bd.named
  have hnm := (name_of_methodNamed Bd.named Bd.method).1
  have X0 : Stand p l e ({ frames := 0, cells := 0, slots := 0, locals := 0 } : Room) s m #[] below meth c s₁ [] 0 0 := Stand.of_body Bd
  have e0 : s₁.heap = h0 := by rw [← hh, Bd.state]; rfl
  have N0 := Fr.nil n0
  have pre0 : ∀ t, Steps p.tables e below (s₁.setTop (mkF m 0 #[] [])) t → Steps p.tables e below (s₁.setTop (entryFrame m #[] 0)) t := fun t k => castTop (ef_9 m ) k
  obtain ⟨S0, hS0⟩ : ∃ z, z = s₁.setTop (mkF m 0 #[] []) := ⟨_, rfl⟩
  have r0 : Steps p.tables e below S0 (s₁.setTop (mkF m 0 #[] [])) := by rw [hS0]; exact Steps.refl _
  obtain ⟨T45, X45, e45, st45⟩ := getS2 X0 hx hZ hown (host := "") (Or.inl (hw _ (List.mem_of_getElem? (i := 57) rfl))) Via.refl e0 Sw (g := (mkF m 0 #[] [])) rfl (hb hby d9_0)
  have r46 : Steps p.tables e below S0 (T45.setTop (mkF m 3 #[] [(.ref w)])) := r0.trans (st45 _ (Steps.refl _))
  obtain ⟨fs, hr, hrun, hended, hW, hsame⟩ := X45.leave (v := some (.ref w)) (fun h => by rw [Bd.returns] at h; cases h)
  refine ⟨_, _, pre0 _ ?_, hrun, hended, _, _, rfl, ?_, ⟨_, rfl⟩, hW, hsame.mono (by decide) (by decide)⟩
  · rw [← hS0]
    refine r46.trans ?_
    show Steps p.tables e below (T45.setTop (mkF m 3 #[] [(.ref w)])) _
    jvm_step X45.here [X45.here.top, hx, (hb hby d9_3), X45.method', Bd.returns, Value.isRef, FieldType.isReference]
    first | (intro acts; rw [hr _ acts rfl rfl rfl]) | rw [hr _ _ rfl rfl rfl]
    exact Steps.refl _
  · exact ⟨rfl, N0, e45⟩
theorem pn_7 : plainName "java/util/OptionalDouble" = true := by first | (simp [plainName, overriddenIn]; done) | decide +kernel
theorem ef_7 (m : MethodId) (x0 : Addr) : entryFrame m #[(.ref x0)] 1 = mkF m 0 #[.val (.ref x0)] [] := by first | (simp [entryFrame, mkF, argsToLocals, Value.category]; done) | rfl
def QmP (Z : State) (a1 : Addr) (z : Int32) (h0 : Heap) (n0 : Nat) (v : Option Value) (h : Heap) (L : List Loc) : Prop := v = some (.int z) ∧ Fr n0 L ∧ h = h0
set_option maxRecDepth 65536 in
set_option maxHeartbeats 40000000 in
theorem rmP (l : Launch) (Z : State) (a0 : Array Value) (hw : ∀ d ∈ tables_1, d.before a0 Z = true) (ws : List Jvm.Cond) (a1 : Addr) (z : Int32) (h0 : Heap) (n0 : Nat) (Z0 : n0 ≤ h0.size) (Fp : Fld Z h0 a1 "java/util/OptionalDouble" "isPresent" "Z" (.int z)) (hz : z = 0 ∨ z = 1) :
    MetFree l (⟨"java/util/OptionalDouble", "isPresent", "()Z"⟩ : MethodName) (head1 (Jvm.Cond.code (⟨"java/util/OptionalDouble", "isPresent", "()Z"⟩ : MethodName) jdk_2648_method_6_code 1 (some .boolean) :: ws) ({ frames := 0, cells := 0, slots := 0, locals := 0 } : Room)) (fun a U => a = #[(.ref a1)] ∧ Z.Warmed39 U.vm ∧ U.heap = h0) (fun _ _ _ _ _ => True) (fun _ U o U' => ∃ v L, o = .returned v ∧ QmP Z a1 z h0 n0 v U'.heap L ∧ FrameEnd U o U' L ({ frames := 0, cells := 0, slots := 0, locals := 0 } : Room).cells ({ frames := 0, cells := 0, slots := 0, locals := 0 } : Room).slots) := by
  refine MetFree.of_bodySF (plainFor_of_name pn_7) hisR ?_
  intro p e s m args below meth c s₁ Bd hml0 hP hK
  obtain ⟨rfl, hZ, hh⟩ := hP
  have hx := Bd.exec
  have hby := Bd.bytes
  have hml : c.maxLocals = 1 := hml0
  have hown : s.vm.findClass "java/util/OptionalDouble" = some m.cls := findClass_of_methodNamed Bd.named
  have hnm := (name_of_methodNamed Bd.named Bd.method).1
  have X0 : Stand p l e ({ frames := 0, cells := 0, slots := 0, locals := 0 } : Room) s m #[(.ref a1)] below meth c s₁ [] 0 0 := Stand.of_body Bd
  have e0 : s₁.heap = h0 := by rw [← hh, Bd.state]; rfl
  have N0 := Fr.nil n0
  have pre0 : ∀ t, Steps p.tables e below (s₁.setTop (mkF m 0 #[.val (.ref a1)] [])) t → Steps p.tables e below (s₁.setTop (entryFrame m #[(.ref a1)] 1)) t := fun t k => castTop (ef_7 m a1) k
  obtain ⟨S0, hS0⟩ : ∃ z, z = s₁.setTop (mkF m 0 #[.val (.ref a1)] []) := ⟨_, rfl⟩
  have r0 : Steps p.tables e below S0 (s₁.setTop (mkF m 0 #[.val (.ref a1)] [])) := by rw [hS0]; exact Steps.refl _
  have r47 : Steps p.tables e below S0 (s₁.setTop (mkF m 1 #[.val (.ref a1)] [(.ref a1)])) := by
    refine r0.trans ?_
    show Steps p.tables e below (s₁.setTop (mkF m 0 #[.val (.ref a1)] [])) _
    refine XS.aloadN X0.here hx rfl (hb hby d7_0) rfl rfl ?_
    exact Steps.refl _
  obtain ⟨T48, X48, e48, st48⟩ := getF X0 hx hZ hown (host := "") (Or.inl (hw _ (List.mem_of_getElem? (i := 37) rfl))) Via.refl e0 Fp (g := (mkF m 1 #[.val (.ref a1)] [(.ref a1)])) rfl rfl (hb hby d7_1)
  have r49 : Steps p.tables e below S0 (T48.setTop (mkF m 4 #[.val (.ref a1)] [(.int z)])) := r47.trans (st48 _ (Steps.refl _))
  obtain ⟨fs, hr, hrun, hended, hW, hsame⟩ := X48.leave (v := some (.int z)) (fun h => by rw [Bd.returns] at h; cases h)
  refine ⟨_, _, pre0 _ ?_, hrun, hended, _, _, rfl, ?_, ⟨_, rfl⟩, hW, hsame.mono (by decide) (by decide)⟩
  · rw [← hS0]
    refine r49.trans ?_
    show Steps p.tables e below (T48.setTop (mkF m 4 #[.val (.ref a1)] [(.int z)])) _
    exact retB X48 hx Bd.returns (hz) (hb hby d7_4) hr
  · exact ⟨rfl, N0, e48⟩
theorem pn_8 : plainName "java/util/OptionalDouble" = true := by first | (simp [plainName, overriddenIn]; done) | decide +kernel
theorem ef_8 (m : MethodId) (x0 : Addr) : entryFrame m #[(.ref x0)] 1 = mkF m 0 #[.val (.ref x0)] [] := by first | (simp [entryFrame, mkF, argsToLocals, Value.category]; done) | rfl
def QmG (Z : State) (a1 : Addr) (u : UInt64) (h0 : Heap) (n0 : Nat) (v : Option Value) (h : Heap) (L : List Loc) : Prop := v = some (.double u) ∧ Fr n0 L ∧ h = h0
set_option maxRecDepth 65536 in
set_option maxHeartbeats 40000000 in
theorem rmG (l : Launch) (Z : State) (a0 : Array Value) (hw : ∀ d ∈ tables_1, d.before a0 Z = true) (ws : List Jvm.Cond) (a1 : Addr) (u : UInt64) (h0 : Heap) (n0 : Nat) (Z0 : n0 ≤ h0.size) (Fp : Fld Z h0 a1 "java/util/OptionalDouble" "isPresent" "Z" (.int (1 : Int32))) (Fv : Fld Z h0 a1 "java/util/OptionalDouble" "value" "D" (.double u)) :
    MetFree l (⟨"java/util/OptionalDouble", "getAsDouble", "()D"⟩ : MethodName) (head1 (Jvm.Cond.code (⟨"java/util/OptionalDouble", "getAsDouble", "()D"⟩ : MethodName) jdk_2648_method_5_code 1 (some .double) :: ws) ({ frames := 0, cells := 0, slots := 0, locals := 0 } : Room)) (fun a U => a = #[(.ref a1)] ∧ Z.Warmed39 U.vm ∧ U.heap = h0) (fun _ _ _ _ _ => True) (fun _ U o U' => ∃ v L, o = .returned v ∧ QmG Z a1 u h0 n0 v U'.heap L ∧ FrameEnd U o U' L ({ frames := 0, cells := 0, slots := 0, locals := 0 } : Room).cells ({ frames := 0, cells := 0, slots := 0, locals := 0 } : Room).slots) := by
  refine MetFree.of_bodySF (plainFor_of_name pn_8) hisR ?_
  intro p e s m args below meth c s₁ Bd hml0 hP hK
  obtain ⟨rfl, hZ, hh⟩ := hP
  have hx := Bd.exec
  have hby := Bd.bytes
  have hml : c.maxLocals = 1 := hml0
  have hown : s.vm.findClass "java/util/OptionalDouble" = some m.cls := findClass_of_methodNamed Bd.named
  have hnm := (name_of_methodNamed Bd.named Bd.method).1
  have X0 : Stand p l e ({ frames := 0, cells := 0, slots := 0, locals := 0 } : Room) s m #[(.ref a1)] below meth c s₁ [] 0 0 := Stand.of_body Bd
  have e0 : s₁.heap = h0 := by rw [← hh, Bd.state]; rfl
  have N0 := Fr.nil n0
  have pre0 : ∀ t, Steps p.tables e below (s₁.setTop (mkF m 0 #[.val (.ref a1)] [])) t → Steps p.tables e below (s₁.setTop (entryFrame m #[(.ref a1)] 1)) t := fun t k => castTop (ef_8 m a1) k
  obtain ⟨S0, hS0⟩ : ∃ z, z = s₁.setTop (mkF m 0 #[.val (.ref a1)] []) := ⟨_, rfl⟩
  have r0 : Steps p.tables e below S0 (s₁.setTop (mkF m 0 #[.val (.ref a1)] [])) := by rw [hS0]; exact Steps.refl _
  have r50 : Steps p.tables e below S0 (s₁.setTop (mkF m 1 #[.val (.ref a1)] [(.ref a1)])) := by
    refine r0.trans ?_
    show Steps p.tables e below (s₁.setTop (mkF m 0 #[.val (.ref a1)] [])) _
    refine XS.aloadN X0.here hx rfl (hb hby d8_0) rfl rfl ?_
    exact Steps.refl _
  obtain ⟨T51, X51, e51, st51⟩ := getF X0 hx hZ hown (host := "") (Or.inl (hw _ (List.mem_of_getElem? (i := 37) rfl))) Via.refl e0 Fp (g := (mkF m 1 #[.val (.ref a1)] [(.ref a1)])) rfl rfl (hb hby d8_1)
  have r52 : Steps p.tables e below S0 (T51.setTop (mkF m 4 #[.val (.ref a1)] [(.int (1 : Int32))])) := r50.trans (st51 _ (Steps.refl _))
  have r53 : Steps p.tables e below S0 (T51.setTop (mkF m 18 #[.val (.ref a1)] [(.ref a1)])) := by
    refine r52.trans ?_
    show Steps p.tables e below (T51.setTop (mkF m 4 #[.val (.ref a1)] [(.int (1 : Int32))])) _
    refine XS.ifYes X51.here hx rfl (pc0 := 4) (pc' := 17) rfl (hb hby d8_4) rfl ((if0 _ _).trans (feq (by decide)).2) (by decide) (by decide) ?_
    show Steps p.tables e below (T51.setTop (mkF m 17 #[.val (.ref a1)] [])) _
    refine XS.aloadN X51.here hx rfl (hb hby d8_17) rfl rfl ?_
    exact Steps.refl _
  obtain ⟨T54, X54, e54, st54⟩ := getF X51 hx hZ hown (host := "") (Or.inl (hw _ (List.mem_of_getElem? (i := 39) rfl))) Via.refl e51 Fv (g := (mkF m 18 #[.val (.ref a1)] [(.ref a1)])) rfl rfl (hb hby d8_18)
  have r55 : Steps p.tables e below S0 (T54.setTop (mkF m 21 #[.val (.ref a1)] [(.double u)])) := r53.trans (st54 _ (Steps.refl _))
  obtain ⟨fs, hr, hrun, hended, hW, hsame⟩ := X54.leave (v := some (.double u)) (fun h => by rw [Bd.returns] at h; cases h)
  refine ⟨_, _, pre0 _ ?_, hrun, hended, _, _, rfl, ?_, ⟨_, rfl⟩, hW, hsame.mono (by decide) (by decide)⟩
  · rw [← hS0]
    refine r55.trans ?_
    show Steps p.tables e below (T54.setTop (mkF m 21 #[.val (.ref a1)] [(.double u)])) _
    exact retD X54 hx Bd.returns (hb hby d8_21) hr
  · exact ⟨rfl, N0, e54⟩
theorem pn_4 : plainName "org/rowfold/aggregate/Moments" = true := by first | (simp [plainName, overriddenIn]; done) | decide +kernel
theorem ef_4 (m : MethodId) (x0 : Addr) (x1 : Int32) : entryFrame m #[(.ref x0), (.int x1)] 4 = mkF m 0 #[.val (.ref x0), .val (.int x1), .unset, .unset] [] := by first | (simp [entryFrame, mkF, argsToLocals, Value.category]; done) | rfl
def QmV0e (Z : State) (a1 : Addr) (p1 : Int32) (cn : Int64) (w : Addr) (h0 : Heap) (n0 : Nat) (v : Option Value) (h : Heap) (L : List Loc) : Prop := v = some (.ref w) ∧ Fr n0 L ∧ h = h0
set_option maxRecDepth 65536 in
set_option maxHeartbeats 40000000 in
theorem rmV0e (l : Launch) (Z : State) (a0 : Array Value) (hw : ∀ d ∈ tables_1, d.before a0 Z = true) (ws : List Jvm.Cond) (a1 : Addr) (p1 : Int32) (cn : Int64) (w : Addr) (h0 : Heap) (n0 : Nat) (Z0 : n0 ≤ h0.size) (hp : p1 = 0) (Fc : Fld Z h0 a1 "org/rowfold/aggregate/Moments" "count" "J" (.long cn)) (Sw : Sta Z h0 "java/util/OptionalDouble" "EMPTY" "Ljava/util/OptionalDouble;" (.ref w)) (hD : cn < 1) :
    MetFree l (⟨"org/rowfold/aggregate/Moments", "variance", "(Z)Ljava/util/OptionalDouble;"⟩ : MethodName) (head1 (Jvm.Cond.code (⟨"org/rowfold/aggregate/Moments", "variance", "(Z)Ljava/util/OptionalDouble;"⟩ : MethodName) prog_6_method_4_code 4 (some (.object "java/util/OptionalDouble")) :: ws) ({ frames := 1, cells := 0, slots := 0, locals := 11 } : Room)) (fun a U => a = #[(.ref a1), (.int p1)] ∧ Z.Warmed39 U.vm ∧ U.heap = h0) (fun _ _ _ _ _ => True) (fun _ U o U' => ∃ v L, o = .returned v ∧ QmV0e Z a1 p1 cn w h0 n0 v U'.heap L ∧ FrameEnd U o U' L ({ frames := 1, cells := 0, slots := 0, locals := 11 } : Room).cells ({ frames := 1, cells := 0, slots := 0, locals := 11 } : Room).slots) := by
  refine MetFree.of_bodySF (plainFor_of_name pn_4) hisR ?_
  intro p e s m args below meth c s₁ Bd hml0 hP hK
  obtain ⟨rfl, hZ, hh⟩ := hP
  have hx := Bd.exec
  have hby := Bd.bytes
  have hml : c.maxLocals = 4 := hml0
  have hown : s.vm.findClass "org/rowfold/aggregate/Moments" = some m.cls := findClass_of_methodNamed Bd.named
  have hnm := (name_of_methodNamed Bd.named Bd.method).1
  have X0 : Stand p l e ({ frames := 1, cells := 0, slots := 0, locals := 11 } : Room) s m #[(.ref a1), (.int p1)] below meth c s₁ [] 0 0 := Stand.of_body Bd
  have e0 : s₁.heap = h0 := by rw [← hh, Bd.state]; rfl
  have N0 := Fr.nil n0
  have pre0 : ∀ t, Steps p.tables e below (s₁.setTop (mkF m 0 #[.val (.ref a1), .val (.int p1), .unset, .unset] [])) t → Steps p.tables e below (s₁.setTop (entryFrame m #[(.ref a1), (.int p1)] 4)) t := fun t k => castTop (ef_4 m a1 p1) k
  obtain ⟨S0, hS0⟩ : ∃ z, z = s₁.setTop (mkF m 0 #[.val (.ref a1), .val (.int p1), .unset, .unset] []) := ⟨_, rfl⟩
  have r0 : Steps p.tables e below S0 (s₁.setTop (mkF m 0 #[.val (.ref a1), .val (.int p1), .unset, .unset] [])) := by rw [hS0]; exact Steps.refl _
  have r56 : Steps p.tables e below S0 (s₁.setTop (mkF m 14 #[.val (.ref a1), .val (.int p1), .unset, .unset] [(.ref a1)])) := by
    refine r0.trans ?_
    show Steps p.tables e below (s₁.setTop (mkF m 0 #[.val (.ref a1), .val (.int p1), .unset, .unset] [])) _
    refine XS.iloadN X0.here hx rfl (hb hby d4_0) rfl ?_
    show Steps p.tables e below (s₁.setTop (mkF m 1 #[.val (.ref a1), .val (.int p1), .unset, .unset] [(.int p1)])) _
    refine XS.ifYes X0.here hx rfl (pc0 := 1) (pc' := 13) rfl (hb hby d4_1) rfl ((if0 _ _).trans (teq hp).1) (by decide) (by decide) ?_
    show Steps p.tables e below (s₁.setTop (mkF m 13 #[.val (.ref a1), .val (.int p1), .unset, .unset] [])) _
    refine XS.aloadN X0.here hx rfl (hb hby d4_13) rfl rfl ?_
    exact Steps.refl _
  obtain ⟨T57, X57, e57, st57⟩ := getF X0 hx hZ hown (host := "") (Or.inl (hw _ (List.mem_of_getElem? (i := 15) rfl))) Via.refl e0 Fc (g := (mkF m 14 #[.val (.ref a1), .val (.int p1), .unset, .unset] [(.ref a1)])) rfl rfl (hb hby d4_14)
  have r58 : Steps p.tables e below S0 (T57.setTop (mkF m 17 #[.val (.ref a1), .val (.int p1), .unset, .unset] [(.long cn)])) := r56.trans (st57 _ (Steps.refl _))
  have r59 : Steps p.tables e below S0 (T57.setTop (mkF m 24 #[.val (.ref a1), .val (.int p1), .val (.long cn), .second] [])) := by
    refine r58.trans ?_
    show Steps p.tables e below (T57.setTop (mkF m 17 #[.val (.ref a1), .val (.int p1), .unset, .unset] [(.long cn)])) _
    refine XS.lstoreN X57.here hx rfl (hb hby d4_17) rfl (l' := #[.val (.ref a1), .val (.int p1), .val (.long cn), .second]) rfl ?_
    show Steps p.tables e below (T57.setTop (mkF m 18 #[.val (.ref a1), .val (.int p1), .val (.long cn), .second] [])) _
    refine XS.lloadN X57.here hx rfl (hb hby d4_18) rfl ?_
    show Steps p.tables e below (T57.setTop (mkF m 19 #[.val (.ref a1), .val (.int p1), .val (.long cn), .second] [(.long cn)])) _
    refine XS.lconst X57.here hx rfl (hb hby d4_19) ?_
    show Steps p.tables e below (T57.setTop (mkF m 20 #[.val (.ref a1), .val (.int p1), .val (.long cn), .second] [(.long (1 : Int64)), (.long cn)])) _
    refine XS.lcmp X57.here hx rfl (hb hby d4_20) rfl ?_
    show Steps p.tables e below (T57.setTop (mkF m 21 #[.val (.ref a1), .val (.int p1), .val (.long cn), .second] [(.int (lcmpW cn (1 : Int64)))])) _
    refine XS.ifNo X57.here hx rfl (hb hby d4_21) rfl ((if0 _ _).trans (tlt ((lw_lt _ _).mpr hD)).2.1) ?_
    exact Steps.refl _
  obtain ⟨_, _, ⟨T60, L60, k60, n60⟩, -, X60, ⟨Lc60, hQ60, l60, y60, z60⟩, st60⟩ := Jvm.LawKit.callS X57 hx (y := (⟨"java/util/OptionalDouble", "empty", "()Ljava/util/OptionalDouble;"⟩ : MethodName)) hown (mvT hZ (hw _ (List.mem_of_getElem? (i := 54) rfl))) (mvT hZ (hw _ (List.mem_of_getElem? (i := 55) rfl))) (mvT hZ (hw _ (List.mem_of_getElem? (i := 28) rfl))) (mvT hZ (hw _ (List.mem_of_getElem? (i := 56) rfl))) (by decide) (backOf (W := 0) (rmE l Z a0 hw [] w h0 n0 Z0 Sw) hZ (hw _ (List.mem_of_getElem? (i := 56) rfl)) (hw _ (List.mem_of_getElem? (i := 28) rfl)) (by decide) (by decide)) (g := (mkF m 24 #[.val (.ref a1), .val (.int p1), .val (.long cn), .second] [])) rfl (by rw [hml]; rfl) (argsL := []) (rest := []) (lenOf pd_1 rfl) rfl (by show 2 * 0 + _ ≤ _; exact Nat.le_of_eq rfl) (hb hby d4_24) (fun _ _ => ⟨rfl, e57, (by decide : 0 + 0 ≤ _), (by decide : 0 + 0 ≤ _)⟩)
  dsimp only [Pt.U, Pt.locs, Pt.cells, Pt.slots] at X60 l60 y60 z60 st60 hQ60
  subst l60 y60 z60
  obtain ⟨rfl, Nq60, e60⟩ := hQ60
  have N60 := Fr.app N0 Nq60
  have r61 : Steps p.tables e below S0 (T60.setTop (mkF m 27 #[.val (.ref a1), .val (.int p1), .val (.long cn), .second] [(.ref w)])) := r59.trans (st60 _ (Steps.refl _))
  have r62 : Steps p.tables e below S0 (T60.setTop (mkF m 40 #[.val (.ref a1), .val (.int p1), .val (.long cn), .second] [(.ref w)])) := by
    refine r61.trans ?_
    show Steps p.tables e below (T60.setTop (mkF m 27 #[.val (.ref a1), .val (.int p1), .val (.long cn), .second] [(.ref w)])) _
    refine XS.goto X60.here hx rfl (pc0 := 27) (pc' := 40) rfl (hb hby d4_27) (by decide) (by decide) ?_
    exact Steps.refl _
  obtain ⟨fs, hr, hrun, hended, hW, hsame⟩ := X60.leave (v := some (.ref w)) (fun h => by rw [Bd.returns] at h; cases h)
  refine ⟨_, _, pre0 _ ?_, hrun, hended, _, _, rfl, ?_, ⟨_, rfl⟩, hW, hsame.mono (by decide) (by decide)⟩
  · rw [← hS0]
    refine r62.trans ?_
    show Steps p.tables e below (T60.setTop (mkF m 40 #[.val (.ref a1), .val (.int p1), .val (.long cn), .second] [(.ref w)])) _
    jvm_step X60.here [X60.here.top, hx, (hb hby d4_40), X60.method', Bd.returns, Value.isRef, FieldType.isReference]
    first | (intro acts; rw [hr _ acts rfl rfl rfl]) | rw [hr _ _ rfl rfl rfl]
    exact Steps.refl _
  · exact ⟨rfl, N60, e60⟩
def QmV0o (Z : State) (a1 : Addr) (p1 : Int32) (cn : Int64) (sq : UInt64) (dv : UInt64) (h0 : Heap) (n0 : Nat) (v : Option Value) (h : Heap) (L : List Loc) : Prop := ∃ b : Addr, v = some (.ref b) ∧ h0.size ≤ b ∧ Exa Z h b "java/util/OptionalDouble" ∧ Fld Z h b "java/util/OptionalDouble" "isPresent" "Z" (.int (1 : Int32)) ∧ Fld Z h b "java/util/OptionalDouble" "value" "D" (.double dv) ∧ Keep h0 h [] ∧ Fr n0 L
set_option maxRecDepth 65536 in
set_option maxHeartbeats 40000000 in
theorem rmV0o (l : Launch) (Z : State) (a0 : Array Value) (hw : ∀ d ∈ tables_1, d.before a0 Z = true) (ws : List Jvm.Cond) (a1 : Addr) (p1 : Int32) (cn : Int64) (sq : UInt64) (dv : UInt64) (h0 : Heap) (n0 : Nat) (Z0 : n0 ≤ h0.size) (hp : p1 = 0) (Fc : Fld Z h0 a1 "org/rowfold/aggregate/Moments" "count" "J" (.long cn)) (Fs : Fld Z h0 a1 "org/rowfold/aggregate/Moments" "squares" "D" (.double sq)) (hD : ¬ cn < 1) (ev : FP.ddiv sq (FP.l2d cn) = dv) (nv : NoNaN64 dv) :
    MetFree l (⟨"org/rowfold/aggregate/Moments", "variance", "(Z)Ljava/util/OptionalDouble;"⟩ : MethodName) (head1 (Jvm.Cond.code (⟨"org/rowfold/aggregate/Moments", "variance", "(Z)Ljava/util/OptionalDouble;"⟩ : MethodName) prog_6_method_4_code 4 (some (.object "java/util/OptionalDouble")) :: ws) ({ frames := 3, cells := 1, slots := 2, locals := 40 } : Room)) (fun a U => a = #[(.ref a1), (.int p1)] ∧ Z.Warmed39 U.vm ∧ U.heap = h0) (fun _ _ _ _ _ => True) (fun _ U o U' => ∃ v L, o = .returned v ∧ QmV0o Z a1 p1 cn sq dv h0 n0 v U'.heap L ∧ FrameEnd U o U' L ({ frames := 3, cells := 1, slots := 2, locals := 40 } : Room).cells ({ frames := 3, cells := 1, slots := 2, locals := 40 } : Room).slots) := by
  refine MetFree.of_bodySF (plainFor_of_name pn_4) hisR ?_
  intro p e s m args below meth c s₁ Bd hml0 hP hK
  obtain ⟨rfl, hZ, hh⟩ := hP
  have hx := Bd.exec
  have hby := Bd.bytes
  have hml : c.maxLocals = 4 := hml0
  have hown : s.vm.findClass "org/rowfold/aggregate/Moments" = some m.cls := findClass_of_methodNamed Bd.named
  have hnm := (name_of_methodNamed Bd.named Bd.method).1
  have X0 : Stand p l e ({ frames := 3, cells := 1, slots := 2, locals := 40 } : Room) s m #[(.ref a1), (.int p1)] below meth c s₁ [] 0 0 := Stand.of_body Bd
  have e0 : s₁.heap = h0 := by rw [← hh, Bd.state]; rfl
  have N0 := Fr.nil n0
  have pre0 : ∀ t, Steps p.tables e below (s₁.setTop (mkF m 0 #[.val (.ref a1), .val (.int p1), .unset, .unset] [])) t → Steps p.tables e below (s₁.setTop (entryFrame m #[(.ref a1), (.int p1)] 4)) t := fun t k => castTop (ef_4 m a1 p1) k
  obtain ⟨S0, hS0⟩ : ∃ z, z = s₁.setTop (mkF m 0 #[.val (.ref a1), .val (.int p1), .unset, .unset] []) := ⟨_, rfl⟩
  have r0 : Steps p.tables e below S0 (s₁.setTop (mkF m 0 #[.val (.ref a1), .val (.int p1), .unset, .unset] [])) := by rw [hS0]; exact Steps.refl _
  have K0 := Keep.refl h0 []
  have r63 : Steps p.tables e below S0 (s₁.setTop (mkF m 14 #[.val (.ref a1), .val (.int p1), .unset, .unset] [(.ref a1)])) := by
    refine r0.trans ?_
    show Steps p.tables e below (s₁.setTop (mkF m 0 #[.val (.ref a1), .val (.int p1), .unset, .unset] [])) _
    refine XS.iloadN X0.here hx rfl (hb hby d4_0) rfl ?_
    show Steps p.tables e below (s₁.setTop (mkF m 1 #[.val (.ref a1), .val (.int p1), .unset, .unset] [(.int p1)])) _
    refine XS.ifYes X0.here hx rfl (pc0 := 1) (pc' := 13) rfl (hb hby d4_1) rfl ((if0 _ _).trans (teq hp).1) (by decide) (by decide) ?_
    show Steps p.tables e below (s₁.setTop (mkF m 13 #[.val (.ref a1), .val (.int p1), .unset, .unset] [])) _
    refine XS.aloadN X0.here hx rfl (hb hby d4_13) rfl rfl ?_
    exact Steps.refl _
  obtain ⟨T64, X64, e64, st64⟩ := getF X0 hx hZ hown (host := "") (Or.inl (hw _ (List.mem_of_getElem? (i := 15) rfl))) Via.refl e0 Fc (g := (mkF m 14 #[.val (.ref a1), .val (.int p1), .unset, .unset] [(.ref a1)])) rfl rfl (hb hby d4_14)
  have r65 : Steps p.tables e below S0 (T64.setTop (mkF m 17 #[.val (.ref a1), .val (.int p1), .unset, .unset] [(.long cn)])) := r63.trans (st64 _ (Steps.refl _))
  have r66 : Steps p.tables e below S0 (T64.setTop (mkF m 31 #[.val (.ref a1), .val (.int p1), .val (.long cn), .second] [(.ref a1)])) := by
    refine r65.trans ?_
    show Steps p.tables e below (T64.setTop (mkF m 17 #[.val (.ref a1), .val (.int p1), .unset, .unset] [(.long cn)])) _
    refine XS.lstoreN X64.here hx rfl (hb hby d4_17) rfl (l' := #[.val (.ref a1), .val (.int p1), .val (.long cn), .second]) rfl ?_
    show Steps p.tables e below (T64.setTop (mkF m 18 #[.val (.ref a1), .val (.int p1), .val (.long cn), .second] [])) _
    refine XS.lloadN X64.here hx rfl (hb hby d4_18) rfl ?_
    show Steps p.tables e below (T64.setTop (mkF m 19 #[.val (.ref a1), .val (.int p1), .val (.long cn), .second] [(.long cn)])) _
    refine XS.lconst X64.here hx rfl (hb hby d4_19) ?_
    show Steps p.tables e below (T64.setTop (mkF m 20 #[.val (.ref a1), .val (.int p1), .val (.long cn), .second] [(.long (1 : Int64)), (.long cn)])) _
    refine XS.lcmp X64.here hx rfl (hb hby d4_20) rfl ?_
    show Steps p.tables e below (T64.setTop (mkF m 21 #[.val (.ref a1), .val (.int p1), .val (.long cn), .second] [(.int (lcmpW cn (1 : Int64)))])) _
    refine XS.ifYes X64.here hx rfl (pc0 := 21) (pc' := 30) rfl (hb hby d4_21) rfl ((if0 _ _).trans (flt (fun z => hD ((lw_lt _ _).mp z))).2.1) (by decide) (by decide) ?_
    show Steps p.tables e below (T64.setTop (mkF m 30 #[.val (.ref a1), .val (.int p1), .val (.long cn), .second] [])) _
    refine XS.aloadN X64.here hx rfl (hb hby d4_30) rfl rfl ?_
    exact Steps.refl _
  obtain ⟨T67, X67, e67, st67⟩ := getF X64 hx hZ hown (host := "") (Or.inl (hw _ (List.mem_of_getElem? (i := 19) rfl))) Via.refl e64 Fs (g := (mkF m 31 #[.val (.ref a1), .val (.int p1), .val (.long cn), .second] [(.ref a1)])) rfl rfl (hb hby d4_31)
  have r68 : Steps p.tables e below S0 (T67.setTop (mkF m 34 #[.val (.ref a1), .val (.int p1), .val (.long cn), .second] [(.double sq)])) := r66.trans (st67 _ (Steps.refl _))
  have r69 : Steps p.tables e below S0 (T67.setTop (mkF m 37 #[.val (.ref a1), .val (.int p1), .val (.long cn), .second] [(.double dv)])) := by
    refine r68.trans ?_
    show Steps p.tables e below (T67.setTop (mkF m 34 #[.val (.ref a1), .val (.int p1), .val (.long cn), .second] [(.double sq)])) _
    refine XS.lloadN X67.here hx rfl (hb hby d4_34) rfl ?_
    show Steps p.tables e below (T67.setTop (mkF m 35 #[.val (.ref a1), .val (.int p1), .val (.long cn), .second] [(.long cn), (.double sq)])) _
    refine XS.l2dS X67.here hx rfl (hb hby d4_35) rfl rfl ?_
    show Steps p.tables e below (T67.setTop (mkF m 36 #[.val (.ref a1), .val (.int p1), .val (.long cn), .second] [(.double (FP.l2d cn)), (.double sq)])) _
    refine XS.ddivS X67.here hx rfl (hb hby d4_36) rfl (by rw [ev]; exact nv) ev ?_
    exact Steps.refl _
  obtain ⟨_, _, ⟨T70, L70, k70, n70⟩, -, X70, ⟨Lc70, hQ70, l70, y70, z70⟩, st70⟩ := Jvm.LawKit.callS X67 hx (y := (⟨"java/util/OptionalDouble", "of", "(D)Ljava/util/OptionalDouble;"⟩ : MethodName)) hown (mvT hZ (hw _ (List.mem_of_getElem? (i := 26) rfl))) (mvT hZ (hw _ (List.mem_of_getElem? (i := 27) rfl))) (mvT hZ (hw _ (List.mem_of_getElem? (i := 28) rfl))) (mvT hZ (hw _ (List.mem_of_getElem? (i := 29) rfl))) (by decide) (backOf (W := 0) (rmF l Z a0 hw [] dv h0 n0 Z0) hZ (hw _ (List.mem_of_getElem? (i := 29) rfl)) (hw _ (List.mem_of_getElem? (i := 28) rfl)) (by decide) (by decide)) (g := (mkF m 37 #[.val (.ref a1), .val (.int p1), .val (.long cn), .second] [(.double dv)])) rfl (by rw [hml]; rfl) (argsL := [(.double dv)]) (rest := []) (lenOf pd_2 rfl) rfl (by show 2 * 0 + _ ≤ _; exact Nat.le_of_eq rfl) (hb hby d4_37) (fun _ _ => ⟨rfl, e67, (by decide : 0 + 1 ≤ _), (by decide : 0 + 2 ≤ _)⟩)
  dsimp only [Pt.U, Pt.locs, Pt.cells, Pt.slots] at X70 l70 y70 z70 st70 hQ70
  subst l70 y70 z70
  obtain ⟨b1, rfl, sb, Eb, Fp, Fv, Kc70, Nq70⟩ := hQ70
  have N70 := Fr.app N0 Nq70
  have r71 : Steps p.tables e below S0 (T70.setTop (mkF m 40 #[.val (.ref a1), .val (.int p1), .val (.long cn), .second] [(.ref b1)])) := r69.trans (st70 _ (Steps.refl _))
  have F70_a1_count := Fc.keep Kc70 nin0
  have F70_a1_squares := Fs.keep Kc70 nin0
  have Z70 : n0 ≤ T70.heap.size := Nat.le_trans Z0 Kc70.1
  have K70 := K0.trans Kc70 (all0)
  obtain ⟨fs, hr, hrun, hended, hW, hsame⟩ := X70.leave (v := some (.ref b1)) (fun h => by rw [Bd.returns] at h; cases h)
  refine ⟨_, _, pre0 _ ?_, hrun, hended, _, _, rfl, ?_, ⟨_, rfl⟩, hW, hsame.mono (by decide) (by decide)⟩
  · rw [← hS0]
    refine r71.trans ?_
    show Steps p.tables e below (T70.setTop (mkF m 40 #[.val (.ref a1), .val (.int p1), .val (.long cn), .second] [(.ref b1)])) _
    jvm_step X70.here [X70.here.top, hx, (hb hby d4_40), X70.method', Bd.returns, Value.isRef, FieldType.isReference]
    first | (intro acts; rw [hr _ acts rfl rfl rfl]) | rw [hr _ _ rfl rfl rfl]
    exact Steps.refl _
  · exact ⟨b1, rfl, sb, Eb, Fp, Fv, K70, N70⟩
def QmV1e (Z : State) (a1 : Addr) (p1 : Int32) (cn : Int64) (w : Addr) (h0 : Heap) (n0 : Nat) (v : Option Value) (h : Heap) (L : List Loc) : Prop := v = some (.ref w) ∧ Fr n0 L ∧ h = h0
set_option maxRecDepth 65536 in
set_option maxHeartbeats 40000000 in
theorem rmV1e (l : Launch) (Z : State) (a0 : Array Value) (hw : ∀ d ∈ tables_1, d.before a0 Z = true) (ws : List Jvm.Cond) (a1 : Addr) (p1 : Int32) (cn : Int64) (w : Addr) (h0 : Heap) (n0 : Nat) (Z0 : n0 ≤ h0.size) (hp : ¬ p1 = 0) (Fc : Fld Z h0 a1 "org/rowfold/aggregate/Moments" "count" "J" (.long cn)) (Sw : Sta Z h0 "java/util/OptionalDouble" "EMPTY" "Ljava/util/OptionalDouble;" (.ref w)) (hD : (cn - (1 : Int64)) < 1) :
    MetFree l (⟨"org/rowfold/aggregate/Moments", "variance", "(Z)Ljava/util/OptionalDouble;"⟩ : MethodName) (head1 (Jvm.Cond.code (⟨"org/rowfold/aggregate/Moments", "variance", "(Z)Ljava/util/OptionalDouble;"⟩ : MethodName) prog_6_method_4_code 4 (some (.object "java/util/OptionalDouble")) :: ws) ({ frames := 1, cells := 0, slots := 0, locals := 11 } : Room)) (fun a U => a = #[(.ref a1), (.int p1)] ∧ Z.Warmed39 U.vm ∧ U.heap = h0) (fun _ _ _ _ _ => True) (fun _ U o U' => ∃ v L, o = .returned v ∧ QmV1e Z a1 p1 cn w h0 n0 v U'.heap L ∧ FrameEnd U o U' L ({ frames := 1, cells := 0, slots := 0, locals := 11 } : Room).cells ({ frames := 1, cells := 0, slots := 0, locals := 11 } : Room).slots) := by
  refine MetFree.of_bodySF (plainFor_of_name pn_4) hisR ?_
  intro p e s m args below meth c s₁ Bd hml0 hP hK
  obtain ⟨rfl, hZ, hh⟩ := hP
  have hx := Bd.exec
  have hby := Bd.bytes
  have hml : c.maxLocals = 4 := hml0
  have hown : s.vm.findClass "org/rowfold/aggregate/Moments" = some m.cls := findClass_of_methodNamed Bd.named
  have hnm := (name_of_methodNamed Bd.named Bd.method).1
  have X0 : Stand p l e ({ frames := 1, cells := 0, slots := 0, locals := 11 } : Room) s m #[(.ref a1), (.int p1)] below meth c s₁ [] 0 0 := Stand.of_body Bd
  have e0 : s₁.heap = h0 := by rw [← hh, Bd.state]; rfl
  have N0 := Fr.nil n0
  have pre0 : ∀ t, Steps p.tables e below (s₁.setTop (mkF m 0 #[.val (.ref a1), .val (.int p1), .unset, .unset] [])) t → Steps p.tables e below (s₁.setTop (entryFrame m #[(.ref a1), (.int p1)] 4)) t := fun t k => castTop (ef_4 m a1 p1) k
  obtain ⟨S0, hS0⟩ : ∃ z, z = s₁.setTop (mkF m 0 #[.val (.ref a1), .val (.int p1), .unset, .unset] []) := ⟨_, rfl⟩
  have r0 : Steps p.tables e below S0 (s₁.setTop (mkF m 0 #[.val (.ref a1), .val (.int p1), .unset, .unset] [])) := by rw [hS0]; exact Steps.refl _
  have r72 : Steps p.tables e below S0 (s₁.setTop (mkF m 5 #[.val (.ref a1), .val (.int p1), .unset, .unset] [(.ref a1)])) := by
    refine r0.trans ?_
    show Steps p.tables e below (s₁.setTop (mkF m 0 #[.val (.ref a1), .val (.int p1), .unset, .unset] [])) _
    refine XS.iloadN X0.here hx rfl (hb hby d4_0) rfl ?_
    show Steps p.tables e below (s₁.setTop (mkF m 1 #[.val (.ref a1), .val (.int p1), .unset, .unset] [(.int p1)])) _
    refine XS.ifNo X0.here hx rfl (hb hby d4_1) rfl ((if0 _ _).trans (feq hp).1) ?_
    show Steps p.tables e below (s₁.setTop (mkF m 4 #[.val (.ref a1), .val (.int p1), .unset, .unset] [])) _
    refine XS.aloadN X0.here hx rfl (hb hby d4_4) rfl rfl ?_
    exact Steps.refl _
  obtain ⟨T73, X73, e73, st73⟩ := getF X0 hx hZ hown (host := "") (Or.inl (hw _ (List.mem_of_getElem? (i := 15) rfl))) Via.refl e0 Fc (g := (mkF m 5 #[.val (.ref a1), .val (.int p1), .unset, .unset] [(.ref a1)])) rfl rfl (hb hby d4_5)
  have r74 : Steps p.tables e below S0 (T73.setTop (mkF m 8 #[.val (.ref a1), .val (.int p1), .unset, .unset] [(.long cn)])) := r72.trans (st73 _ (Steps.refl _))
  have r75 : Steps p.tables e below S0 (T73.setTop (mkF m 24 #[.val (.ref a1), .val (.int p1), .val (.long (cn - (1 : Int64))), .second] [])) := by
    refine r74.trans ?_
    show Steps p.tables e below (T73.setTop (mkF m 8 #[.val (.ref a1), .val (.int p1), .unset, .unset] [(.long cn)])) _
    refine XS.lconst X73.here hx rfl (hb hby d4_8) ?_
    show Steps p.tables e below (T73.setTop (mkF m 9 #[.val (.ref a1), .val (.int p1), .unset, .unset] [(.long (1 : Int64)), (.long cn)])) _
    refine XS.lsub X73.here hx rfl (hb hby d4_9) rfl ?_
    show Steps p.tables e below (T73.setTop (mkF m 10 #[.val (.ref a1), .val (.int p1), .unset, .unset] [(.long (cn - (1 : Int64)))])) _
    refine XS.goto X73.here hx rfl (pc0 := 10) (pc' := 17) rfl (hb hby d4_10) (by decide) (by decide) ?_
    show Steps p.tables e below (T73.setTop (mkF m 17 #[.val (.ref a1), .val (.int p1), .unset, .unset] [(.long (cn - (1 : Int64)))])) _
    refine XS.lstoreN X73.here hx rfl (hb hby d4_17) rfl (l' := #[.val (.ref a1), .val (.int p1), .val (.long (cn - (1 : Int64))), .second]) rfl ?_
    show Steps p.tables e below (T73.setTop (mkF m 18 #[.val (.ref a1), .val (.int p1), .val (.long (cn - (1 : Int64))), .second] [])) _
    refine XS.lloadN X73.here hx rfl (hb hby d4_18) rfl ?_
    show Steps p.tables e below (T73.setTop (mkF m 19 #[.val (.ref a1), .val (.int p1), .val (.long (cn - (1 : Int64))), .second] [(.long (cn - (1 : Int64)))])) _
    refine XS.lconst X73.here hx rfl (hb hby d4_19) ?_
    show Steps p.tables e below (T73.setTop (mkF m 20 #[.val (.ref a1), .val (.int p1), .val (.long (cn - (1 : Int64))), .second] [(.long (1 : Int64)), (.long (cn - (1 : Int64)))])) _
    refine XS.lcmp X73.here hx rfl (hb hby d4_20) rfl ?_
    show Steps p.tables e below (T73.setTop (mkF m 21 #[.val (.ref a1), .val (.int p1), .val (.long (cn - (1 : Int64))), .second] [(.int (lcmpW (cn - (1 : Int64)) (1 : Int64)))])) _
    refine XS.ifNo X73.here hx rfl (hb hby d4_21) rfl ((if0 _ _).trans (tlt ((lw_lt _ _).mpr hD)).2.1) ?_
    exact Steps.refl _
  obtain ⟨_, _, ⟨T76, L76, k76, n76⟩, -, X76, ⟨Lc76, hQ76, l76, y76, z76⟩, st76⟩ := Jvm.LawKit.callS X73 hx (y := (⟨"java/util/OptionalDouble", "empty", "()Ljava/util/OptionalDouble;"⟩ : MethodName)) hown (mvT hZ (hw _ (List.mem_of_getElem? (i := 54) rfl))) (mvT hZ (hw _ (List.mem_of_getElem? (i := 55) rfl))) (mvT hZ (hw _ (List.mem_of_getElem? (i := 28) rfl))) (mvT hZ (hw _ (List.mem_of_getElem? (i := 56) rfl))) (by decide) (backOf (W := 0) (rmE l Z a0 hw [] w h0 n0 Z0 Sw) hZ (hw _ (List.mem_of_getElem? (i := 56) rfl)) (hw _ (List.mem_of_getElem? (i := 28) rfl)) (by decide) (by decide)) (g := (mkF m 24 #[.val (.ref a1), .val (.int p1), .val (.long (cn - (1 : Int64))), .second] [])) rfl (by rw [hml]; rfl) (argsL := []) (rest := []) (lenOf pd_1 rfl) rfl (by show 2 * 0 + _ ≤ _; exact Nat.le_of_eq rfl) (hb hby d4_24) (fun _ _ => ⟨rfl, e73, (by decide : 0 + 0 ≤ _), (by decide : 0 + 0 ≤ _)⟩)
  dsimp only [Pt.U, Pt.locs, Pt.cells, Pt.slots] at X76 l76 y76 z76 st76 hQ76
  subst l76 y76 z76
  obtain ⟨rfl, Nq76, e76⟩ := hQ76
  have N76 := Fr.app N0 Nq76
  have r77 : Steps p.tables e below S0 (T76.setTop (mkF m 27 #[.val (.ref a1), .val (.int p1), .val (.long (cn - (1 : Int64))), .second] [(.ref w)])) := r75.trans (st76 _ (Steps.refl _))
  have r78 : Steps p.tables e below S0 (T76.setTop (mkF m 40 #[.val (.ref a1), .val (.int p1), .val (.long (cn - (1 : Int64))), .second] [(.ref w)])) := by
    refine r77.trans ?_
    show Steps p.tables e below (T76.setTop (mkF m 27 #[.val (.ref a1), .val (.int p1), .val (.long (cn - (1 : Int64))), .second] [(.ref w)])) _
    refine XS.goto X76.here hx rfl (pc0 := 27) (pc' := 40) rfl (hb hby d4_27) (by decide) (by decide) ?_
    exact Steps.refl _
  obtain ⟨fs, hr, hrun, hended, hW, hsame⟩ := X76.leave (v := some (.ref w)) (fun h => by rw [Bd.returns] at h; cases h)
  refine ⟨_, _, pre0 _ ?_, hrun, hended, _, _, rfl, ?_, ⟨_, rfl⟩, hW, hsame.mono (by decide) (by decide)⟩
  · rw [← hS0]
    refine r78.trans ?_
    show Steps p.tables e below (T76.setTop (mkF m 40 #[.val (.ref a1), .val (.int p1), .val (.long (cn - (1 : Int64))), .second] [(.ref w)])) _
    jvm_step X76.here [X76.here.top, hx, (hb hby d4_40), X76.method', Bd.returns, Value.isRef, FieldType.isReference]
    first | (intro acts; rw [hr _ acts rfl rfl rfl]) | rw [hr _ _ rfl rfl rfl]
    exact Steps.refl _
  · exact ⟨rfl, N76, e76⟩
def QmV1o (Z : State) (a1 : Addr) (p1 : Int32) (cn : Int64) (sq : UInt64) (dv : UInt64) (h0 : Heap) (n0 : Nat) (v : Option Value) (h : Heap) (L : List Loc) : Prop := ∃ b : Addr, v = some (.ref b) ∧ h0.size ≤ b ∧ Exa Z h b "java/util/OptionalDouble" ∧ Fld Z h b "java/util/OptionalDouble" "isPresent" "Z" (.int (1 : Int32)) ∧ Fld Z h b "java/util/OptionalDouble" "value" "D" (.double dv) ∧ Keep h0 h [] ∧ Fr n0 L
set_option maxRecDepth 65536 in
set_option maxHeartbeats 40000000 in
theorem rmV1o (l : Launch) (Z : State) (a0 : Array Value) (hw : ∀ d ∈ tables_1, d.before a0 Z = true) (ws : List Jvm.Cond) (a1 : Addr) (p1 : Int32) (cn : Int64) (sq : UInt64) (dv : UInt64) (h0 : Heap) (n0 : Nat) (Z0 : n0 ≤ h0.size) (hp : ¬ p1 = 0) (Fc : Fld Z h0 a1 "org/rowfold/aggregate/Moments" "count" "J" (.long cn)) (Fs : Fld Z h0 a1 "org/rowfold/aggregate/Moments" "squares" "D" (.double sq)) (hD : ¬ (cn - (1 : Int64)) < 1) (ev : FP.ddiv sq (FP.l2d (cn - (1 : Int64))) = dv) (nv : NoNaN64 dv) :
    MetFree l (⟨"org/rowfold/aggregate/Moments", "variance", "(Z)Ljava/util/OptionalDouble;"⟩ : MethodName) (head1 (Jvm.Cond.code (⟨"org/rowfold/aggregate/Moments", "variance", "(Z)Ljava/util/OptionalDouble;"⟩ : MethodName) prog_6_method_4_code 4 (some (.object "java/util/OptionalDouble")) :: ws) ({ frames := 3, cells := 1, slots := 2, locals := 40 } : Room)) (fun a U => a = #[(.ref a1), (.int p1)] ∧ Z.Warmed39 U.vm ∧ U.heap = h0) (fun _ _ _ _ _ => True) (fun _ U o U' => ∃ v L, o = .returned v ∧ QmV1o Z a1 p1 cn sq dv h0 n0 v U'.heap L ∧ FrameEnd U o U' L ({ frames := 3, cells := 1, slots := 2, locals := 40 } : Room).cells ({ frames := 3, cells := 1, slots := 2, locals := 40 } : Room).slots) := by
  refine MetFree.of_bodySF (plainFor_of_name pn_4) hisR ?_
  intro p e s m args below meth c s₁ Bd hml0 hP hK
  obtain ⟨rfl, hZ, hh⟩ := hP
  have hx := Bd.exec
  have hby := Bd.bytes
  have hml : c.maxLocals = 4 := hml0
  have hown : s.vm.findClass "org/rowfold/aggregate/Moments" = some m.cls := findClass_of_methodNamed Bd.named
  have hnm := (name_of_methodNamed Bd.named Bd.method).1
  have X0 : Stand p l e ({ frames := 3, cells := 1, slots := 2, locals := 40 } : Room) s m #[(.ref a1), (.int p1)] below meth c s₁ [] 0 0 := Stand.of_body Bd
  have e0 : s₁.heap = h0 := by rw [← hh, Bd.state]; rfl
  have N0 := Fr.nil n0
  have pre0 : ∀ t, Steps p.tables e below (s₁.setTop (mkF m 0 #[.val (.ref a1), .val (.int p1), .unset, .unset] [])) t → Steps p.tables e below (s₁.setTop (entryFrame m #[(.ref a1), (.int p1)] 4)) t := fun t k => castTop (ef_4 m a1 p1) k
  obtain ⟨S0, hS0⟩ : ∃ z, z = s₁.setTop (mkF m 0 #[.val (.ref a1), .val (.int p1), .unset, .unset] []) := ⟨_, rfl⟩
  have r0 : Steps p.tables e below S0 (s₁.setTop (mkF m 0 #[.val (.ref a1), .val (.int p1), .unset, .unset] [])) := by rw [hS0]; exact Steps.refl _
  have K0 := Keep.refl h0 []
  have r79 : Steps p.tables e below S0 (s₁.setTop (mkF m 5 #[.val (.ref a1), .val (.int p1), .unset, .unset] [(.ref a1)])) := by
    refine r0.trans ?_
    show Steps p.tables e below (s₁.setTop (mkF m 0 #[.val (.ref a1), .val (.int p1), .unset, .unset] [])) _
    refine XS.iloadN X0.here hx rfl (hb hby d4_0) rfl ?_
    show Steps p.tables e below (s₁.setTop (mkF m 1 #[.val (.ref a1), .val (.int p1), .unset, .unset] [(.int p1)])) _
    refine XS.ifNo X0.here hx rfl (hb hby d4_1) rfl ((if0 _ _).trans (feq hp).1) ?_
    show Steps p.tables e below (s₁.setTop (mkF m 4 #[.val (.ref a1), .val (.int p1), .unset, .unset] [])) _
    refine XS.aloadN X0.here hx rfl (hb hby d4_4) rfl rfl ?_
    exact Steps.refl _
  obtain ⟨T80, X80, e80, st80⟩ := getF X0 hx hZ hown (host := "") (Or.inl (hw _ (List.mem_of_getElem? (i := 15) rfl))) Via.refl e0 Fc (g := (mkF m 5 #[.val (.ref a1), .val (.int p1), .unset, .unset] [(.ref a1)])) rfl rfl (hb hby d4_5)
  have r81 : Steps p.tables e below S0 (T80.setTop (mkF m 8 #[.val (.ref a1), .val (.int p1), .unset, .unset] [(.long cn)])) := r79.trans (st80 _ (Steps.refl _))
  have r82 : Steps p.tables e below S0 (T80.setTop (mkF m 31 #[.val (.ref a1), .val (.int p1), .val (.long (cn - (1 : Int64))), .second] [(.ref a1)])) := by
    refine r81.trans ?_
    show Steps p.tables e below (T80.setTop (mkF m 8 #[.val (.ref a1), .val (.int p1), .unset, .unset] [(.long cn)])) _
    refine XS.lconst X80.here hx rfl (hb hby d4_8) ?_
    show Steps p.tables e below (T80.setTop (mkF m 9 #[.val (.ref a1), .val (.int p1), .unset, .unset] [(.long (1 : Int64)), (.long cn)])) _
    refine XS.lsub X80.here hx rfl (hb hby d4_9) rfl ?_
    show Steps p.tables e below (T80.setTop (mkF m 10 #[.val (.ref a1), .val (.int p1), .unset, .unset] [(.long (cn - (1 : Int64)))])) _
    refine XS.goto X80.here hx rfl (pc0 := 10) (pc' := 17) rfl (hb hby d4_10) (by decide) (by decide) ?_
    show Steps p.tables e below (T80.setTop (mkF m 17 #[.val (.ref a1), .val (.int p1), .unset, .unset] [(.long (cn - (1 : Int64)))])) _
    refine XS.lstoreN X80.here hx rfl (hb hby d4_17) rfl (l' := #[.val (.ref a1), .val (.int p1), .val (.long (cn - (1 : Int64))), .second]) rfl ?_
    show Steps p.tables e below (T80.setTop (mkF m 18 #[.val (.ref a1), .val (.int p1), .val (.long (cn - (1 : Int64))), .second] [])) _
    refine XS.lloadN X80.here hx rfl (hb hby d4_18) rfl ?_
    show Steps p.tables e below (T80.setTop (mkF m 19 #[.val (.ref a1), .val (.int p1), .val (.long (cn - (1 : Int64))), .second] [(.long (cn - (1 : Int64)))])) _
    refine XS.lconst X80.here hx rfl (hb hby d4_19) ?_
    show Steps p.tables e below (T80.setTop (mkF m 20 #[.val (.ref a1), .val (.int p1), .val (.long (cn - (1 : Int64))), .second] [(.long (1 : Int64)), (.long (cn - (1 : Int64)))])) _
    refine XS.lcmp X80.here hx rfl (hb hby d4_20) rfl ?_
    show Steps p.tables e below (T80.setTop (mkF m 21 #[.val (.ref a1), .val (.int p1), .val (.long (cn - (1 : Int64))), .second] [(.int (lcmpW (cn - (1 : Int64)) (1 : Int64)))])) _
    refine XS.ifYes X80.here hx rfl (pc0 := 21) (pc' := 30) rfl (hb hby d4_21) rfl ((if0 _ _).trans (flt (fun z => hD ((lw_lt _ _).mp z))).2.1) (by decide) (by decide) ?_
    show Steps p.tables e below (T80.setTop (mkF m 30 #[.val (.ref a1), .val (.int p1), .val (.long (cn - (1 : Int64))), .second] [])) _
    refine XS.aloadN X80.here hx rfl (hb hby d4_30) rfl rfl ?_
    exact Steps.refl _
  obtain ⟨T83, X83, e83, st83⟩ := getF X80 hx hZ hown (host := "") (Or.inl (hw _ (List.mem_of_getElem? (i := 19) rfl))) Via.refl e80 Fs (g := (mkF m 31 #[.val (.ref a1), .val (.int p1), .val (.long (cn - (1 : Int64))), .second] [(.ref a1)])) rfl rfl (hb hby d4_31)
  have r84 : Steps p.tables e below S0 (T83.setTop (mkF m 34 #[.val (.ref a1), .val (.int p1), .val (.long (cn - (1 : Int64))), .second] [(.double sq)])) := r82.trans (st83 _ (Steps.refl _))
  have r85 : Steps p.tables e below S0 (T83.setTop (mkF m 37 #[.val (.ref a1), .val (.int p1), .val (.long (cn - (1 : Int64))), .second] [(.double dv)])) := by
    refine r84.trans ?_
    show Steps p.tables e below (T83.setTop (mkF m 34 #[.val (.ref a1), .val (.int p1), .val (.long (cn - (1 : Int64))), .second] [(.double sq)])) _
    refine XS.lloadN X83.here hx rfl (hb hby d4_34) rfl ?_
    show Steps p.tables e below (T83.setTop (mkF m 35 #[.val (.ref a1), .val (.int p1), .val (.long (cn - (1 : Int64))), .second] [(.long (cn - (1 : Int64))), (.double sq)])) _
    refine XS.l2dS X83.here hx rfl (hb hby d4_35) rfl rfl ?_
    show Steps p.tables e below (T83.setTop (mkF m 36 #[.val (.ref a1), .val (.int p1), .val (.long (cn - (1 : Int64))), .second] [(.double (FP.l2d (cn - (1 : Int64)))), (.double sq)])) _
    refine XS.ddivS X83.here hx rfl (hb hby d4_36) rfl (by rw [ev]; exact nv) ev ?_
    exact Steps.refl _
  obtain ⟨_, _, ⟨T86, L86, k86, n86⟩, -, X86, ⟨Lc86, hQ86, l86, y86, z86⟩, st86⟩ := Jvm.LawKit.callS X83 hx (y := (⟨"java/util/OptionalDouble", "of", "(D)Ljava/util/OptionalDouble;"⟩ : MethodName)) hown (mvT hZ (hw _ (List.mem_of_getElem? (i := 26) rfl))) (mvT hZ (hw _ (List.mem_of_getElem? (i := 27) rfl))) (mvT hZ (hw _ (List.mem_of_getElem? (i := 28) rfl))) (mvT hZ (hw _ (List.mem_of_getElem? (i := 29) rfl))) (by decide) (backOf (W := 0) (rmF l Z a0 hw [] dv h0 n0 Z0) hZ (hw _ (List.mem_of_getElem? (i := 29) rfl)) (hw _ (List.mem_of_getElem? (i := 28) rfl)) (by decide) (by decide)) (g := (mkF m 37 #[.val (.ref a1), .val (.int p1), .val (.long (cn - (1 : Int64))), .second] [(.double dv)])) rfl (by rw [hml]; rfl) (argsL := [(.double dv)]) (rest := []) (lenOf pd_2 rfl) rfl (by show 2 * 0 + _ ≤ _; exact Nat.le_of_eq rfl) (hb hby d4_37) (fun _ _ => ⟨rfl, e83, (by decide : 0 + 1 ≤ _), (by decide : 0 + 2 ≤ _)⟩)
  dsimp only [Pt.U, Pt.locs, Pt.cells, Pt.slots] at X86 l86 y86 z86 st86 hQ86
  subst l86 y86 z86
  obtain ⟨b1, rfl, sb, Eb, Fp, Fv, Kc86, Nq86⟩ := hQ86
  have N86 := Fr.app N0 Nq86
  have r87 : Steps p.tables e below S0 (T86.setTop (mkF m 40 #[.val (.ref a1), .val (.int p1), .val (.long (cn - (1 : Int64))), .second] [(.ref b1)])) := r85.trans (st86 _ (Steps.refl _))
  have F86_a1_count := Fc.keep Kc86 nin0
  have F86_a1_squares := Fs.keep Kc86 nin0
  have Z86 : n0 ≤ T86.heap.size := Nat.le_trans Z0 Kc86.1
  have K86 := K0.trans Kc86 (all0)
  obtain ⟨fs, hr, hrun, hended, hW, hsame⟩ := X86.leave (v := some (.ref b1)) (fun h => by rw [Bd.returns] at h; cases h)
  refine ⟨_, _, pre0 _ ?_, hrun, hended, _, _, rfl, ?_, ⟨_, rfl⟩, hW, hsame.mono (by decide) (by decide)⟩
  · rw [← hS0]
    refine r87.trans ?_
    show Steps p.tables e below (T86.setTop (mkF m 40 #[.val (.ref a1), .val (.int p1), .val (.long (cn - (1 : Int64))), .second] [(.ref b1)])) _
    jvm_step X86.here [X86.here.top, hx, (hb hby d4_40), X86.method', Bd.returns, Value.isRef, FieldType.isReference]
    first | (intro acts; rw [hr _ acts rfl rfl rfl]) | rw [hr _ _ rfl rfl rfl]
    exact Steps.refl _
  · exact ⟨b1, rfl, sb, Eb, Fp, Fv, K86, N86⟩
theorem pn_0 : plainName "org/rowfold/aggregate/MomentsAddPinLaw" = true := by first | (simp [plainName, overriddenIn]; done) | decide +kernel
theorem ef_0 (m : MethodId) (x0 : Int32) (x1 : Int32) (x2 : Int32) : entryFrame m #[(.int x0), (.int x1), (.int x2)] maxLocals = mkF m 0 #[.val (.int x0), .val (.int x1), .val (.int x2), .unset, .unset, .unset, .unset, .unset, .unset, .unset, .unset, .unset, .unset] [] := by first | (simp [entryFrame, mkF, argsToLocals, Value.category, maxLocals]; done) | rfl
def Qm0 (Z : State) (p1 : Int32) (p2 : Int32) (p3 : Int32) (w : Addr) (h0 : Heap) (n0 : Nat) (v : Option Value) (h : Heap) (L : List Loc) : Prop := v = some (.int 1) ∧ Fr n0 L
set_option maxRecDepth 65536 in
set_option maxHeartbeats 40000000 in
theorem rm0 (l : Launch) (Z : State) (a0 : Array Value) (hw : ∀ d ∈ tables_1, d.before a0 Z = true) (ws : List Jvm.Cond) (p1 : Int32) (p2 : Int32) (p3 : Int32) (w : Addr) (h0 : Heap) (n0 : Nat) (Z0 : n0 ≤ h0.size) (O0 : Old Z n0 h0) (Sw : Sta Z Z.heap "java/util/OptionalDouble" "EMPTY" "Ljava/util/OptionalDouble;" (.ref w)) (Ew : Exa Z Z.heap w "java/util/OptionalDouble") (Fw : Fld Z Z.heap w "java/util/OptionalDouble" "isPresent" "Z" (.int (0 : Int32))) :
    MetFree l x (head1 (Jvm.Cond.code x code maxLocals ret :: ws) room_1) (fun a U => a = #[(.int p1), (.int p2), (.int p3)] ∧ Z.Warmed39 U.vm ∧ U.heap = h0) (fun _ _ _ _ _ => True) (fun _ U o U' => ∃ v L, o = .returned v ∧ Qm0 Z p1 p2 p3 w h0 n0 v U'.heap L ∧ FrameEnd U o U' L room_1.cells room_1.slots) := by
  refine MetFree.of_bodySF (plainFor_of_name pn_0) hisR ?_
  intro p e s m args below meth c s₁ Bd hml0 hP hK
  obtain ⟨rfl, hZ, hh⟩ := hP
  have hx := Bd.exec
  have hby := Bd.bytes
  have hml : c.maxLocals = 13 := hml0
  have hown : s.vm.findClass "org/rowfold/aggregate/MomentsAddPinLaw" = some m.cls := findClass_of_methodNamed Bd.named
  have hnm := (name_of_methodNamed Bd.named Bd.method).1
  have X0 : Stand p l e room_1 s m #[(.int p1), (.int p2), (.int p3)] below meth c s₁ [] 0 0 := Stand.of_body Bd
  have e0 : s₁.heap = h0 := by rw [← hh, Bd.state]; rfl
  have N0 := Fr.nil n0
  have pre0 : ∀ t, Steps p.tables e below (s₁.setTop (mkF m 0 #[.val (.int p1), .val (.int p2), .val (.int p3), .unset, .unset, .unset, .unset, .unset, .unset, .unset, .unset, .unset, .unset] [])) t → Steps p.tables e below (s₁.setTop (entryFrame m #[(.int p1), (.int p2), (.int p3)] maxLocals)) t := fun t k => castTop (ef_0 m p1 p2 p3) k
  obtain ⟨S0, hS0⟩ : ∃ z, z = s₁.setTop (mkF m 0 #[.val (.int p1), .val (.int p2), .val (.int p3), .unset, .unset, .unset, .unset, .unset, .unset, .unset, .unset, .unset, .unset] []) := ⟨_, rfl⟩
  have r0 : Steps p.tables e below S0 (s₁.setTop (mkF m 0 #[.val (.int p1), .val (.int p2), .val (.int p3), .unset, .unset, .unset, .unset, .unset, .unset, .unset, .unset, .unset, .unset] [])) := by rw [hS0]; exact Steps.refl _
  have r88 : Steps p.tables e below S0 (s₁.setTop (mkF m 32 #[.val (.int p1), .val (.int p2), .val (.int p3), .val (.int (p1 % (1000000 : Int32))), .val (.int (p2 % (1000000 : Int32))), .val (.int (p3 &&& (3 : Int32))), .val (.long (((p2 % (1000000 : Int32)).toInt64) - ((p1 % (1000000 : Int32)).toInt64))), .second, .val (.double (FP.l2d ((((p2 % (1000000 : Int32)).toInt64) - ((p1 % (1000000 : Int32)).toInt64)) * (((p2 % (1000000 : Int32)).toInt64) - ((p1 % (1000000 : Int32)).toInt64))))), .second, .unset, .unset, .unset] [])) := by
    refine r0.trans ?_
    show Steps p.tables e below (s₁.setTop (mkF m 0 #[.val (.int p1), .val (.int p2), .val (.int p3), .unset, .unset, .unset, .unset, .unset, .unset, .unset, .unset, .unset, .unset] [])) _
    refine XS.iloadN X0.here hx rfl (hb hby at_0) rfl ?_
    show Steps p.tables e below (s₁.setTop (mkF m 1 #[.val (.int p1), .val (.int p2), .val (.int p3), .unset, .unset, .unset, .unset, .unset, .unset, .unset, .unset, .unset, .unset] [(.int p1)])) _
    refine X0.ldcInt hx hown (mvT hZ (hw _ (List.mem_of_getElem? (i := 0) rfl))) (g := (mkF m 1 #[.val (.int p1), .val (.int p2), .val (.int p3), .unset, .unset, .unset, .unset, .unset, .unset, .unset, .unset, .unset, .unset] [(.int p1)])) rfl (hb hby at_1) _ ?_
    show Steps p.tables e below (s₁.setTop (mkF m 3 #[.val (.int p1), .val (.int p2), .val (.int p3), .unset, .unset, .unset, .unset, .unset, .unset, .unset, .unset, .unset, .unset] [(.int (1000000 : Int32)), (.int p1)])) _
    refine iremM X0 hx rfl (hb hby at_3) rfl (by decide) ?_
    show Steps p.tables e below (s₁.setTop (mkF m 4 #[.val (.int p1), .val (.int p2), .val (.int p3), .unset, .unset, .unset, .unset, .unset, .unset, .unset, .unset, .unset, .unset] [(.int (p1 % (1000000 : Int32)))])) _
    refine XS.istoreN X0.here hx rfl (hb hby at_4) rfl (l' := #[.val (.int p1), .val (.int p2), .val (.int p3), .val (.int (p1 % (1000000 : Int32))), .unset, .unset, .unset, .unset, .unset, .unset, .unset, .unset, .unset]) rfl ?_
    show Steps p.tables e below (s₁.setTop (mkF m 5 #[.val (.int p1), .val (.int p2), .val (.int p3), .val (.int (p1 % (1000000 : Int32))), .unset, .unset, .unset, .unset, .unset, .unset, .unset, .unset, .unset] [])) _
    refine XS.iloadN X0.here hx rfl (hb hby at_5) rfl ?_
    show Steps p.tables e below (s₁.setTop (mkF m 6 #[.val (.int p1), .val (.int p2), .val (.int p3), .val (.int (p1 % (1000000 : Int32))), .unset, .unset, .unset, .unset, .unset, .unset, .unset, .unset, .unset] [(.int p2)])) _
    refine X0.ldcInt hx hown (mvT hZ (hw _ (List.mem_of_getElem? (i := 0) rfl))) (g := (mkF m 6 #[.val (.int p1), .val (.int p2), .val (.int p3), .val (.int (p1 % (1000000 : Int32))), .unset, .unset, .unset, .unset, .unset, .unset, .unset, .unset, .unset] [(.int p2)])) rfl (hb hby at_6) _ ?_
    show Steps p.tables e below (s₁.setTop (mkF m 8 #[.val (.int p1), .val (.int p2), .val (.int p3), .val (.int (p1 % (1000000 : Int32))), .unset, .unset, .unset, .unset, .unset, .unset, .unset, .unset, .unset] [(.int (1000000 : Int32)), (.int p2)])) _
    refine iremM X0 hx rfl (hb hby at_8) rfl (by decide) ?_
    show Steps p.tables e below (s₁.setTop (mkF m 9 #[.val (.int p1), .val (.int p2), .val (.int p3), .val (.int (p1 % (1000000 : Int32))), .unset, .unset, .unset, .unset, .unset, .unset, .unset, .unset, .unset] [(.int (p2 % (1000000 : Int32)))])) _
    refine XS.istore X0.here hx rfl (hb hby at_9) rfl (l' := #[.val (.int p1), .val (.int p2), .val (.int p3), .val (.int (p1 % (1000000 : Int32))), .val (.int (p2 % (1000000 : Int32))), .unset, .unset, .unset, .unset, .unset, .unset, .unset, .unset]) rfl ?_
    show Steps p.tables e below (s₁.setTop (mkF m 11 #[.val (.int p1), .val (.int p2), .val (.int p3), .val (.int (p1 % (1000000 : Int32))), .val (.int (p2 % (1000000 : Int32))), .unset, .unset, .unset, .unset, .unset, .unset, .unset, .unset] [])) _
    refine XS.iloadN X0.here hx rfl (hb hby at_11) rfl ?_
    show Steps p.tables e below (s₁.setTop (mkF m 12 #[.val (.int p1), .val (.int p2), .val (.int p3), .val (.int (p1 % (1000000 : Int32))), .val (.int (p2 % (1000000 : Int32))), .unset, .unset, .unset, .unset, .unset, .unset, .unset, .unset] [(.int p3)])) _
    refine XS.iconst X0.here hx rfl (hb hby at_12) ?_
    show Steps p.tables e below (s₁.setTop (mkF m 13 #[.val (.int p1), .val (.int p2), .val (.int p3), .val (.int (p1 % (1000000 : Int32))), .val (.int (p2 % (1000000 : Int32))), .unset, .unset, .unset, .unset, .unset, .unset, .unset, .unset] [(.int (3 : Int32)), (.int p3)])) _
    refine XS.iand X0.here hx rfl (hb hby at_13) rfl ?_
    show Steps p.tables e below (s₁.setTop (mkF m 14 #[.val (.int p1), .val (.int p2), .val (.int p3), .val (.int (p1 % (1000000 : Int32))), .val (.int (p2 % (1000000 : Int32))), .unset, .unset, .unset, .unset, .unset, .unset, .unset, .unset] [(.int (p3 &&& (3 : Int32)))])) _
    refine XS.istore X0.here hx rfl (hb hby at_14) rfl (l' := #[.val (.int p1), .val (.int p2), .val (.int p3), .val (.int (p1 % (1000000 : Int32))), .val (.int (p2 % (1000000 : Int32))), .val (.int (p3 &&& (3 : Int32))), .unset, .unset, .unset, .unset, .unset, .unset, .unset]) rfl ?_
    show Steps p.tables e below (s₁.setTop (mkF m 16 #[.val (.int p1), .val (.int p2), .val (.int p3), .val (.int (p1 % (1000000 : Int32))), .val (.int (p2 % (1000000 : Int32))), .val (.int (p3 &&& (3 : Int32))), .unset, .unset, .unset, .unset, .unset, .unset, .unset] [])) _
    refine XS.iload X0.here hx rfl (hb hby at_16) rfl ?_
    show Steps p.tables e below (s₁.setTop (mkF m 18 #[.val (.int p1), .val (.int p2), .val (.int p3), .val (.int (p1 % (1000000 : Int32))), .val (.int (p2 % (1000000 : Int32))), .val (.int (p3 &&& (3 : Int32))), .unset, .unset, .unset, .unset, .unset, .unset, .unset] [(.int (p2 % (1000000 : Int32)))])) _
    refine XS.i2l X0.here hx rfl (hb hby at_18) rfl ?_
    show Steps p.tables e below (s₁.setTop (mkF m 19 #[.val (.int p1), .val (.int p2), .val (.int p3), .val (.int (p1 % (1000000 : Int32))), .val (.int (p2 % (1000000 : Int32))), .val (.int (p3 &&& (3 : Int32))), .unset, .unset, .unset, .unset, .unset, .unset, .unset] [(.long ((p2 % (1000000 : Int32)).toInt64))])) _
    refine XS.iloadN X0.here hx rfl (hb hby at_19) rfl ?_
    show Steps p.tables e below (s₁.setTop (mkF m 20 #[.val (.int p1), .val (.int p2), .val (.int p3), .val (.int (p1 % (1000000 : Int32))), .val (.int (p2 % (1000000 : Int32))), .val (.int (p3 &&& (3 : Int32))), .unset, .unset, .unset, .unset, .unset, .unset, .unset] [(.int (p1 % (1000000 : Int32))), (.long ((p2 % (1000000 : Int32)).toInt64))])) _
    refine XS.i2l X0.here hx rfl (hb hby at_20) rfl ?_
    show Steps p.tables e below (s₁.setTop (mkF m 21 #[.val (.int p1), .val (.int p2), .val (.int p3), .val (.int (p1 % (1000000 : Int32))), .val (.int (p2 % (1000000 : Int32))), .val (.int (p3 &&& (3 : Int32))), .unset, .unset, .unset, .unset, .unset, .unset, .unset] [(.long ((p1 % (1000000 : Int32)).toInt64)), (.long ((p2 % (1000000 : Int32)).toInt64))])) _
    refine XS.lsub X0.here hx rfl (hb hby at_21) rfl ?_
    show Steps p.tables e below (s₁.setTop (mkF m 22 #[.val (.int p1), .val (.int p2), .val (.int p3), .val (.int (p1 % (1000000 : Int32))), .val (.int (p2 % (1000000 : Int32))), .val (.int (p3 &&& (3 : Int32))), .unset, .unset, .unset, .unset, .unset, .unset, .unset] [(.long (((p2 % (1000000 : Int32)).toInt64) - ((p1 % (1000000 : Int32)).toInt64)))])) _
    refine XS.lstore X0.here hx rfl (hb hby at_22) rfl (l' := #[.val (.int p1), .val (.int p2), .val (.int p3), .val (.int (p1 % (1000000 : Int32))), .val (.int (p2 % (1000000 : Int32))), .val (.int (p3 &&& (3 : Int32))), .val (.long (((p2 % (1000000 : Int32)).toInt64) - ((p1 % (1000000 : Int32)).toInt64))), .second, .unset, .unset, .unset, .unset, .unset]) rfl ?_
    show Steps p.tables e below (s₁.setTop (mkF m 24 #[.val (.int p1), .val (.int p2), .val (.int p3), .val (.int (p1 % (1000000 : Int32))), .val (.int (p2 % (1000000 : Int32))), .val (.int (p3 &&& (3 : Int32))), .val (.long (((p2 % (1000000 : Int32)).toInt64) - ((p1 % (1000000 : Int32)).toInt64))), .second, .unset, .unset, .unset, .unset, .unset] [])) _
    refine XS.lload X0.here hx rfl (hb hby at_24) rfl ?_
    show Steps p.tables e below (s₁.setTop (mkF m 26 #[.val (.int p1), .val (.int p2), .val (.int p3), .val (.int (p1 % (1000000 : Int32))), .val (.int (p2 % (1000000 : Int32))), .val (.int (p3 &&& (3 : Int32))), .val (.long (((p2 % (1000000 : Int32)).toInt64) - ((p1 % (1000000 : Int32)).toInt64))), .second, .unset, .unset, .unset, .unset, .unset] [(.long (((p2 % (1000000 : Int32)).toInt64) - ((p1 % (1000000 : Int32)).toInt64)))])) _
    refine XS.lload X0.here hx rfl (hb hby at_26) rfl ?_
    show Steps p.tables e below (s₁.setTop (mkF m 28 #[.val (.int p1), .val (.int p2), .val (.int p3), .val (.int (p1 % (1000000 : Int32))), .val (.int (p2 % (1000000 : Int32))), .val (.int (p3 &&& (3 : Int32))), .val (.long (((p2 % (1000000 : Int32)).toInt64) - ((p1 % (1000000 : Int32)).toInt64))), .second, .unset, .unset, .unset, .unset, .unset] [(.long (((p2 % (1000000 : Int32)).toInt64) - ((p1 % (1000000 : Int32)).toInt64))), (.long (((p2 % (1000000 : Int32)).toInt64) - ((p1 % (1000000 : Int32)).toInt64)))])) _
    refine XS.lmul X0.here hx rfl (hb hby at_28) rfl ?_
    show Steps p.tables e below (s₁.setTop (mkF m 29 #[.val (.int p1), .val (.int p2), .val (.int p3), .val (.int (p1 % (1000000 : Int32))), .val (.int (p2 % (1000000 : Int32))), .val (.int (p3 &&& (3 : Int32))), .val (.long (((p2 % (1000000 : Int32)).toInt64) - ((p1 % (1000000 : Int32)).toInt64))), .second, .unset, .unset, .unset, .unset, .unset] [(.long ((((p2 % (1000000 : Int32)).toInt64) - ((p1 % (1000000 : Int32)).toInt64)) * (((p2 % (1000000 : Int32)).toInt64) - ((p1 % (1000000 : Int32)).toInt64))))])) _
    refine XS.l2dS X0.here hx rfl (hb hby at_29) rfl rfl ?_
    show Steps p.tables e below (s₁.setTop (mkF m 30 #[.val (.int p1), .val (.int p2), .val (.int p3), .val (.int (p1 % (1000000 : Int32))), .val (.int (p2 % (1000000 : Int32))), .val (.int (p3 &&& (3 : Int32))), .val (.long (((p2 % (1000000 : Int32)).toInt64) - ((p1 % (1000000 : Int32)).toInt64))), .second, .unset, .unset, .unset, .unset, .unset] [(.double (FP.l2d ((((p2 % (1000000 : Int32)).toInt64) - ((p1 % (1000000 : Int32)).toInt64)) * (((p2 % (1000000 : Int32)).toInt64) - ((p1 % (1000000 : Int32)).toInt64)))))])) _
    refine XS.dstore X0.here hx rfl (hb hby at_30) rfl (l' := #[.val (.int p1), .val (.int p2), .val (.int p3), .val (.int (p1 % (1000000 : Int32))), .val (.int (p2 % (1000000 : Int32))), .val (.int (p3 &&& (3 : Int32))), .val (.long (((p2 % (1000000 : Int32)).toInt64) - ((p1 % (1000000 : Int32)).toInt64))), .second, .val (.double (FP.l2d ((((p2 % (1000000 : Int32)).toInt64) - ((p1 % (1000000 : Int32)).toInt64)) * (((p2 % (1000000 : Int32)).toInt64) - ((p1 % (1000000 : Int32)).toInt64))))), .second, .unset, .unset, .unset]) rfl ?_
    exact Steps.refl _
  obtain ⟨aa, haa⟩ : ∃ z, z = (p1 % (1000000 : Int32)) := ⟨_, rfl⟩
  have r89 : Steps p.tables e below S0 (s₁.setTop (mkF m 32 #[.val (.int p1), .val (.int p2), .val (.int p3), .val (.int aa), .val (.int (p2 % (1000000 : Int32))), .val (.int (p3 &&& (3 : Int32))), .val (.long (((p2 % (1000000 : Int32)).toInt64) - (aa.toInt64))), .second, .val (.double (FP.l2d ((((p2 % (1000000 : Int32)).toInt64) - (aa.toInt64)) * (((p2 % (1000000 : Int32)).toInt64) - (aa.toInt64))))), .second, .unset, .unset, .unset] [])) := by rw [haa]; exact r88
  obtain ⟨bb, hbb⟩ : ∃ z, z = (p2 % (1000000 : Int32)) := ⟨_, rfl⟩
  have r90 : Steps p.tables e below S0 (s₁.setTop (mkF m 32 #[.val (.int p1), .val (.int p2), .val (.int p3), .val (.int aa), .val (.int bb), .val (.int (p3 &&& (3 : Int32))), .val (.long ((bb.toInt64) - (aa.toInt64))), .second, .val (.double (FP.l2d (((bb.toInt64) - (aa.toInt64)) * ((bb.toInt64) - (aa.toInt64))))), .second, .unset, .unset, .unset] [])) := by rw [hbb]; exact r89
  obtain ⟨sel, hsel⟩ : ∃ z, z = (p3 &&& (3 : Int32)) := ⟨_, rfl⟩
  have r91 : Steps p.tables e below S0 (s₁.setTop (mkF m 32 #[.val (.int p1), .val (.int p2), .val (.int p3), .val (.int aa), .val (.int bb), .val (.int sel), .val (.long ((bb.toInt64) - (aa.toInt64))), .second, .val (.double (FP.l2d (((bb.toInt64) - (aa.toInt64)) * ((bb.toInt64) - (aa.toInt64))))), .second, .unset, .unset, .unset] [])) := by rw [hsel]; exact r90
  obtain ⟨dl, hdl⟩ : ∃ z, z = ((bb.toInt64) - (aa.toInt64)) := ⟨_, rfl⟩
  have r92 : Steps p.tables e below S0 (s₁.setTop (mkF m 32 #[.val (.int p1), .val (.int p2), .val (.int p3), .val (.int aa), .val (.int bb), .val (.int sel), .val (.long dl), .second, .val (.double (FP.l2d (dl * dl))), .second, .unset, .unset, .unset] [])) := by rw [hdl]; exact r91
  obtain ⟨dd, hdd⟩ : ∃ z, z = (FP.l2d (dl * dl)) := ⟨_, rfl⟩
  have r93 : Steps p.tables e below S0 (s₁.setTop (mkF m 32 #[.val (.int p1), .val (.int p2), .val (.int p3), .val (.int aa), .val (.int bb), .val (.int sel), .val (.long dl), .second, .val (.double dd), .second, .unset, .unset, .unset] [])) := by rw [hdd]; exact r92
  have ba : aa.toInt.natAbs ≤ 1000000 := by rw [haa]; exact own_b p1
  have bb_ : bb.toInt.natAbs ≤ 1000000 := by rw [hbb]; exact own_b p2
  have hs := own_sel p3
  rw [← hsel] at hs
  have hdl2 : dl.toInt = bb.toInt - aa.toInt := by rw [hdl]; exact own_dl ba bb_
  have hq := sq_le (D := bb.toInt - aa.toInt) (by omega)
  have ydd : Dy ((bb.toInt - aa.toInt) * (bb.toInt - aa.toInt)) 0 dd := by rw [hdd]; exact own_dd hdl2 hq
  have ya : Dy aa.toInt 0 (FP.i2d aa) := Dy.i2d aa
  have yb : Dy bb.toInt 0 (FP.i2d bb) := Dy.i2d bb
  obtain ⟨T94, h94, X94, e94, E94, A94, D94, -, st94⟩ := newO X0 hx hZ hown (hw _ (List.mem_of_getElem? (i := 1) rfl)) (hw _ (List.mem_of_getElem? (i := 2) rfl)) (hw _ (List.mem_of_getElem? (i := 3) rfl)) e0 (g := (mkF m 32 #[.val (.int p1), .val (.int p2), .val (.int p3), .val (.int aa), .val (.int bb), .val (.int sel), .val (.long dl), .second, .val (.double dd), .second, .unset, .unset, .unset] [])) rfl (hb hby at_32) (by decide) (by decide)
  obtain ⟨mo, g94⟩ : ∃ z, z = h0.size := ⟨_, rfl⟩
  rw [← g94] at A94 D94 st94
  have g_mo : n0 ≤ mo := Nat.le_trans Z0 (Nat.le_of_eq g94.symm)
  have Z94 : n0 ≤ h94.size := Nat.le_trans Z0 E94.1
  have O94 := O0.ext E94
  have F_mo_count : Fld Z h94 mo "org/rowfold/aggregate/Moments" "count" "J" (.long (0 : Int64)) := D94 (Or.inl (hw _ (List.mem_of_getElem? (i := 16) rfl))) (ty := .long) (by decide)
  have F_mo_mean : Fld Z h94 mo "org/rowfold/aggregate/Moments" "mean" "D" (.double (0 : UInt64)) := D94 (Or.inl (hw _ (List.mem_of_getElem? (i := 18) rfl))) (ty := .double) (by decide)
  have F_mo_squares : Fld Z h94 mo "org/rowfold/aggregate/Moments" "squares" "D" (.double (0 : UInt64)) := D94 (Or.inl (hw _ (List.mem_of_getElem? (i := 20) rfl))) (ty := .double) (by decide)
  have r95 : Steps p.tables e below S0 (T94.setTop (mkF m 35 #[.val (.int p1), .val (.int p2), .val (.int p3), .val (.int aa), .val (.int bb), .val (.int sel), .val (.long dl), .second, .val (.double dd), .second, .unset, .unset, .unset] [(.ref mo)])) := r93.trans (st94 _ (Steps.refl _))
  have r96 : Steps p.tables e below S0 (T94.setTop (mkF m 36 #[.val (.int p1), .val (.int p2), .val (.int p3), .val (.int aa), .val (.int bb), .val (.int sel), .val (.long dl), .second, .val (.double dd), .second, .unset, .unset, .unset] [(.ref mo), (.ref mo)])) := by
    refine r95.trans ?_
    show Steps p.tables e below (T94.setTop (mkF m 35 #[.val (.int p1), .val (.int p2), .val (.int p3), .val (.int aa), .val (.int bb), .val (.int sel), .val (.long dl), .second, .val (.double dd), .second, .unset, .unset, .unset] [(.ref mo)])) _
    refine XS.dup X94.here hx rfl (hb hby at_35) rfl rfl ?_
    exact Steps.refl _
  obtain ⟨_, _, ⟨T97, L97, k97, n97⟩, -, X97, ⟨Lc97, hQ97, l97, y97, z97⟩, st97⟩ := X94.specialBack hx (y := (⟨"org/rowfold/aggregate/Moments", "<init>", "()V"⟩ : MethodName)) rfl hown (mvT hZ (hw _ (List.mem_of_getElem? (i := 4) rfl))) (mvT hZ (hw _ (List.mem_of_getElem? (i := 5) rfl))) (mvT hZ (hw _ (List.mem_of_getElem? (i := 6) rfl))) (by decide) (backOf (W := 1) (rmI l Z a0 hw [] mo h94 n0 Z94) hZ (hw _ (List.mem_of_getElem? (i := 6) rfl)) (hw _ (List.mem_of_getElem? (i := 3) rfl)) (by decide) (by decide)) (g := (mkF m 36 #[.val (.int p1), .val (.int p2), .val (.int p3), .val (.int aa), .val (.int bb), .val (.int sel), .val (.long dl), .second, .val (.double dd), .second, .unset, .unset, .unset] [(.ref mo), (.ref mo)])) rfl (by rw [hml]; rfl) (Steps.refl _) (a := mo) (argsL := []) (rest := [(.ref mo)]) (lenOf pd_3 rfl) rfl (by show 2 * 0 + _ ≤ _; exact Nat.le_of_eq rfl) (hb hby at_36) (fun _ _ => ⟨rfl, e94, (by decide : (0 + 1) + 0 ≤ _), (by decide : (0 + 3) + 0 ≤ _)⟩)
  dsimp only [Pt.U, Pt.locs, Pt.cells, Pt.slots] at X97 l97 y97 z97 st97 hQ97
  subst l97 y97 z97
  obtain ⟨rfl, Nq97, e97⟩ := hQ97
  have N97 := Fr.app N0 Nq97
  have r98 : Steps p.tables e below S0 (T97.setTop (mkF m 39 #[.val (.int p1), .val (.int p2), .val (.int p3), .val (.int aa), .val (.int bb), .val (.int sel), .val (.long dl), .second, .val (.double dd), .second, .unset, .unset, .unset] [(.ref mo)])) := r96.trans st97
  have r99 : Steps p.tables e below S0 (T97.setTop (mkF m 44 #[.val (.int p1), .val (.int p2), .val (.int p3), .val (.int aa), .val (.int bb), .val (.int sel), .val (.long dl), .second, .val (.double dd), .second, .val (.ref mo), .unset, .unset] [(.int (1 : Int32)), (.int sel)])) := by
    refine r98.trans ?_
    show Steps p.tables e below (T97.setTop (mkF m 39 #[.val (.int p1), .val (.int p2), .val (.int p3), .val (.int aa), .val (.int bb), .val (.int sel), .val (.long dl), .second, .val (.double dd), .second, .unset, .unset, .unset] [(.ref mo)])) _
    refine XS.astore X97.here hx rfl (hb hby at_39) rfl rfl (l' := #[.val (.int p1), .val (.int p2), .val (.int p3), .val (.int aa), .val (.int bb), .val (.int sel), .val (.long dl), .second, .val (.double dd), .second, .val (.ref mo), .unset, .unset]) rfl ?_
    show Steps p.tables e below (T97.setTop (mkF m 41 #[.val (.int p1), .val (.int p2), .val (.int p3), .val (.int aa), .val (.int bb), .val (.int sel), .val (.long dl), .second, .val (.double dd), .second, .val (.ref mo), .unset, .unset] [])) _
    refine XS.iload X97.here hx rfl (hb hby at_41) rfl ?_
    show Steps p.tables e below (T97.setTop (mkF m 43 #[.val (.int p1), .val (.int p2), .val (.int p3), .val (.int aa), .val (.int bb), .val (.int sel), .val (.long dl), .second, .val (.double dd), .second, .val (.ref mo), .unset, .unset] [(.int sel)])) _
    refine XS.iconst X97.here hx rfl (hb hby at_43) ?_
    exact Steps.refl _
  rcases hs with hs | hs | hs | hs
  · skip
    have r100 : Steps p.tables e below S0 (T97.setTop (mkF m 91 #[.val (.int p1), .val (.int p2), .val (.int p3), .val (.int aa), .val (.int bb), .val (.int sel), .val (.long dl), .second, .val (.double dd), .second, .val (.ref mo), .unset, .unset] [(.int (0 : Int32)), (.ref mo)])) := by
      refine r99.trans ?_
      show Steps p.tables e below (T97.setTop (mkF m 44 #[.val (.int p1), .val (.int p2), .val (.int p3), .val (.int aa), .val (.int bb), .val (.int sel), .val (.long dl), .second, .val (.double dd), .second, .val (.ref mo), .unset, .unset] [(.int (1 : Int32)), (.int sel)])) _
      refine XS.icmpYes X97.here hx rfl (pc0 := 44) (pc' := 54) rfl (hb hby at_44) rfl (tlt (by rw [hs] <;> decide)).1 (by decide) (by decide) ?_
      show Steps p.tables e below (T97.setTop (mkF m 54 #[.val (.int p1), .val (.int p2), .val (.int p3), .val (.int aa), .val (.int bb), .val (.int sel), .val (.long dl), .second, .val (.double dd), .second, .val (.ref mo), .unset, .unset] [])) _
      refine XS.iload X97.here hx rfl (hb hby at_54) rfl ?_
      show Steps p.tables e below (T97.setTop (mkF m 56 #[.val (.int p1), .val (.int p2), .val (.int p3), .val (.int aa), .val (.int bb), .val (.int sel), .val (.long dl), .second, .val (.double dd), .second, .val (.ref mo), .unset, .unset] [(.int sel)])) _
      refine XS.iconst X97.here hx rfl (hb hby at_56) ?_
      show Steps p.tables e below (T97.setTop (mkF m 57 #[.val (.int p1), .val (.int p2), .val (.int p3), .val (.int aa), .val (.int bb), .val (.int sel), .val (.long dl), .second, .val (.double dd), .second, .val (.ref mo), .unset, .unset] [(.int (2 : Int32)), (.int sel)])) _
      refine XS.icmpYes X97.here hx rfl (pc0 := 57) (pc' := 68) rfl (hb hby at_57) rfl (tlt (by rw [hs] <;> decide)).1 (by decide) (by decide) ?_
      show Steps p.tables e below (T97.setTop (mkF m 68 #[.val (.int p1), .val (.int p2), .val (.int p3), .val (.int aa), .val (.int bb), .val (.int sel), .val (.long dl), .second, .val (.double dd), .second, .val (.ref mo), .unset, .unset] [])) _
      refine XS.iload X97.here hx rfl (hb hby at_68) rfl ?_
      show Steps p.tables e below (T97.setTop (mkF m 70 #[.val (.int p1), .val (.int p2), .val (.int p3), .val (.int aa), .val (.int bb), .val (.int sel), .val (.long dl), .second, .val (.double dd), .second, .val (.ref mo), .unset, .unset] [(.int sel)])) _
      refine XS.iconst X97.here hx rfl (hb hby at_70) ?_
      show Steps p.tables e below (T97.setTop (mkF m 71 #[.val (.int p1), .val (.int p2), .val (.int p3), .val (.int aa), .val (.int bb), .val (.int sel), .val (.long dl), .second, .val (.double dd), .second, .val (.ref mo), .unset, .unset] [(.int (3 : Int32)), (.int sel)])) _
      refine XS.icmpYes X97.here hx rfl (pc0 := 71) (pc' := 88) rfl (hb hby at_71) rfl (tlt (by rw [hs] <;> decide)).1 (by decide) (by decide) ?_
      show Steps p.tables e below (T97.setTop (mkF m 88 #[.val (.int p1), .val (.int p2), .val (.int p3), .val (.int aa), .val (.int bb), .val (.int sel), .val (.long dl), .second, .val (.double dd), .second, .val (.ref mo), .unset, .unset] [])) _
      refine XS.aload X97.here hx rfl (hb hby at_88) rfl rfl ?_
      show Steps p.tables e below (T97.setTop (mkF m 90 #[.val (.int p1), .val (.int p2), .val (.int p3), .val (.int aa), .val (.int bb), .val (.int sel), .val (.long dl), .second, .val (.double dd), .second, .val (.ref mo), .unset, .unset] [(.ref mo)])) _
      refine XS.iconst X97.here hx rfl (hb hby at_90) ?_
      exact Steps.refl _
    obtain ⟨cq101, kq101, q101a, q101b, q101c⟩ := isOf hZ e97 A94
    obtain ⟨_, _, ⟨T101, L101, k101, n101⟩, -, X101, ⟨Lc101, hQ101, l101, y101, z101⟩, st101⟩ := X97.virtualBack hx (y := (⟨"org/rowfold/aggregate/Moments", "variance", "(Z)Ljava/util/OptionalDouble;"⟩ : MethodName)) (z := (⟨"org/rowfold/aggregate/Moments", "variance", "(Z)Ljava/util/OptionalDouble;"⟩ : MethodName)) hown (mvT hZ (hw _ (List.mem_of_getElem? (i := 21) rfl))) (mvT hZ (hw _ (List.mem_of_getElem? (i := 22) rfl))) (notFace_of_selects (args := #[]) (mvT hZ (hw _ (List.mem_of_getElem? (i := 24) rfl)))) (mvT hZ (hw _ (List.mem_of_getElem? (i := 24) rfl))) (mvT hZ (hw _ (List.mem_of_getElem? (i := 23) rfl))) (by decide) (backOf (W := 0) (rmV0e l Z a0 hw [] mo (0 : Int32) (0 : Int64) w h94 n0 Z94 rfl F_mo_count (Sw.ext O94.2) (by decide)) hZ (hw _ (List.mem_of_getElem? (i := 25) rfl)) (hw _ (List.mem_of_getElem? (i := 3) rfl)) (by decide) (by decide)) q101a q101c (g := (mkF m 91 #[.val (.int p1), .val (.int p2), .val (.int p3), .val (.int aa), .val (.int bb), .val (.int sel), .val (.long dl), .second, .val (.double dd), .second, .val (.ref mo), .unset, .unset] [(.int (0 : Int32)), (.ref mo)])) rfl (by rw [hml]; rfl) (Steps.refl _) (argsL := [(.int (0 : Int32))]) (rest := []) (lenOf pd_4 rfl) rfl (by show 2 * 0 + _ ≤ _; exact Nat.le_of_eq rfl) (hb hby at_91) (fun _ _ => ⟨rfl, e97, (by decide : ((0 + 1) + 0) + 0 ≤ _), (by decide : ((0 + 3) + 0) + 0 ≤ _)⟩)
    dsimp only [Pt.U, Pt.locs, Pt.cells, Pt.slots] at X101 l101 y101 z101 st101 hQ101
    subst l101 y101 z101
    obtain ⟨rfl, Nq101, e101⟩ := hQ101
    have N101 := Fr.app N97 Nq101
    have r102 : Steps p.tables e below S0 (T101.setTop (mkF m 94 #[.val (.int p1), .val (.int p2), .val (.int p3), .val (.int aa), .val (.int bb), .val (.int sel), .val (.long dl), .second, .val (.double dd), .second, .val (.ref mo), .unset, .unset] [(.ref w)])) := r100.trans st101
    have r103 : Steps p.tables e below S0 (T101.setTop (mkF m 99 #[.val (.int p1), .val (.int p2), .val (.int p3), .val (.int aa), .val (.int bb), .val (.int sel), .val (.long dl), .second, .val (.double dd), .second, .val (.ref mo), .val (.ref w), .unset] [(.int (1 : Int32)), (.ref mo)])) := by
      refine r102.trans ?_
      show Steps p.tables e below (T101.setTop (mkF m 94 #[.val (.int p1), .val (.int p2), .val (.int p3), .val (.int aa), .val (.int bb), .val (.int sel), .val (.long dl), .second, .val (.double dd), .second, .val (.ref mo), .unset, .unset] [(.ref w)])) _
      refine XS.astore X101.here hx rfl (hb hby at_94) rfl rfl (l' := #[.val (.int p1), .val (.int p2), .val (.int p3), .val (.int aa), .val (.int bb), .val (.int sel), .val (.long dl), .second, .val (.double dd), .second, .val (.ref mo), .val (.ref w), .unset]) rfl ?_
      show Steps p.tables e below (T101.setTop (mkF m 96 #[.val (.int p1), .val (.int p2), .val (.int p3), .val (.int aa), .val (.int bb), .val (.int sel), .val (.long dl), .second, .val (.double dd), .second, .val (.ref mo), .val (.ref w), .unset] [])) _
      refine XS.aload X101.here hx rfl (hb hby at_96) rfl rfl ?_
      show Steps p.tables e below (T101.setTop (mkF m 98 #[.val (.int p1), .val (.int p2), .val (.int p3), .val (.int aa), .val (.int bb), .val (.int sel), .val (.long dl), .second, .val (.double dd), .second, .val (.ref mo), .val (.ref w), .unset] [(.ref mo)])) _
      refine XS.iconst X101.here hx rfl (hb hby at_98) ?_
      exact Steps.refl _
    obtain ⟨cq104, kq104, q104a, q104b, q104c⟩ := isOf hZ e101 A94
    obtain ⟨_, _, ⟨T104, L104, k104, n104⟩, -, X104, ⟨Lc104, hQ104, l104, y104, z104⟩, st104⟩ := X101.virtualBack hx (y := (⟨"org/rowfold/aggregate/Moments", "variance", "(Z)Ljava/util/OptionalDouble;"⟩ : MethodName)) (z := (⟨"org/rowfold/aggregate/Moments", "variance", "(Z)Ljava/util/OptionalDouble;"⟩ : MethodName)) hown (mvT hZ (hw _ (List.mem_of_getElem? (i := 21) rfl))) (mvT hZ (hw _ (List.mem_of_getElem? (i := 22) rfl))) (notFace_of_selects (args := #[]) (mvT hZ (hw _ (List.mem_of_getElem? (i := 24) rfl)))) (mvT hZ (hw _ (List.mem_of_getElem? (i := 24) rfl))) (mvT hZ (hw _ (List.mem_of_getElem? (i := 23) rfl))) (by decide) (backOf (W := 0) (rmV1e l Z a0 hw [] mo (1 : Int32) (0 : Int64) w h94 n0 Z94 (by decide) F_mo_count (Sw.ext O94.2) (by decide)) hZ (hw _ (List.mem_of_getElem? (i := 25) rfl)) (hw _ (List.mem_of_getElem? (i := 3) rfl)) (by decide) (by decide)) q104a q104c (g := (mkF m 99 #[.val (.int p1), .val (.int p2), .val (.int p3), .val (.int aa), .val (.int bb), .val (.int sel), .val (.long dl), .second, .val (.double dd), .second, .val (.ref mo), .val (.ref w), .unset] [(.int (1 : Int32)), (.ref mo)])) rfl (by rw [hml]; rfl) (Steps.refl _) (argsL := [(.int (1 : Int32))]) (rest := []) (lenOf pd_4 rfl) rfl (by show 2 * 0 + _ ≤ _; exact Nat.le_of_eq rfl) (hb hby at_99) (fun _ _ => ⟨rfl, e101, (by decide : (((0 + 1) + 0) + 0) + 0 ≤ _), (by decide : (((0 + 3) + 0) + 0) + 0 ≤ _)⟩)
    dsimp only [Pt.U, Pt.locs, Pt.cells, Pt.slots] at X104 l104 y104 z104 st104 hQ104
    subst l104 y104 z104
    obtain ⟨rfl, Nq104, e104⟩ := hQ104
    have N104 := Fr.app N101 Nq104
    have r105 : Steps p.tables e below S0 (T104.setTop (mkF m 102 #[.val (.int p1), .val (.int p2), .val (.int p3), .val (.int aa), .val (.int bb), .val (.int sel), .val (.long dl), .second, .val (.double dd), .second, .val (.ref mo), .val (.ref w), .unset] [(.ref w)])) := r103.trans st104
    have r106 : Steps p.tables e below S0 (T104.setTop (mkF m 111 #[.val (.int p1), .val (.int p2), .val (.int p3), .val (.int aa), .val (.int bb), .val (.int sel), .val (.long dl), .second, .val (.double dd), .second, .val (.ref mo), .val (.ref w), .val (.ref w)] [(.ref w)])) := by
      refine r105.trans ?_
      show Steps p.tables e below (T104.setTop (mkF m 102 #[.val (.int p1), .val (.int p2), .val (.int p3), .val (.int aa), .val (.int bb), .val (.int sel), .val (.long dl), .second, .val (.double dd), .second, .val (.ref mo), .val (.ref w), .unset] [(.ref w)])) _
      refine XS.astore X104.here hx rfl (hb hby at_102) rfl rfl (l' := #[.val (.int p1), .val (.int p2), .val (.int p3), .val (.int aa), .val (.int bb), .val (.int sel), .val (.long dl), .second, .val (.double dd), .second, .val (.ref mo), .val (.ref w), .val (.ref w)]) rfl ?_
      show Steps p.tables e below (T104.setTop (mkF m 104 #[.val (.int p1), .val (.int p2), .val (.int p3), .val (.int aa), .val (.int bb), .val (.int sel), .val (.long dl), .second, .val (.double dd), .second, .val (.ref mo), .val (.ref w), .val (.ref w)] [])) _
      refine XS.iload X104.here hx rfl (hb hby at_104) rfl ?_
      show Steps p.tables e below (T104.setTop (mkF m 106 #[.val (.int p1), .val (.int p2), .val (.int p3), .val (.int aa), .val (.int bb), .val (.int sel), .val (.long dl), .second, .val (.double dd), .second, .val (.ref mo), .val (.ref w), .val (.ref w)] [(.int sel)])) _
      refine XS.ifNo X104.here hx rfl (hb hby at_106) rfl ((if0 _ _).trans (teq hs).2) ?_
      show Steps p.tables e below (T104.setTop (mkF m 109 #[.val (.int p1), .val (.int p2), .val (.int p3), .val (.int aa), .val (.int bb), .val (.int sel), .val (.long dl), .second, .val (.double dd), .second, .val (.ref mo), .val (.ref w), .val (.ref w)] [])) _
      refine XS.aload X104.here hx rfl (hb hby at_109) rfl rfl ?_
      exact Steps.refl _
    obtain ⟨cq107, kq107, q107a, q107b, q107c⟩ := isOf hZ e104 (Ew.ext O94.2)
    obtain ⟨_, _, ⟨T107, L107, k107, n107⟩, -, X107, ⟨Lc107, hQ107, l107, y107, z107⟩, st107⟩ := X104.virtualBack hx (y := (⟨"java/util/OptionalDouble", "isPresent", "()Z"⟩ : MethodName)) (z := (⟨"java/util/OptionalDouble", "isPresent", "()Z"⟩ : MethodName)) hown (mvT hZ (hw _ (List.mem_of_getElem? (i := 41) rfl))) (mvT hZ (hw _ (List.mem_of_getElem? (i := 42) rfl))) (notFace_of_selects (args := #[]) (mvT hZ (hw _ (List.mem_of_getElem? (i := 44) rfl)))) (mvT hZ (hw _ (List.mem_of_getElem? (i := 44) rfl))) (mvT hZ (hw _ (List.mem_of_getElem? (i := 43) rfl))) (by decide) (backOf (W := 0) (rmP l Z a0 hw [] w (0 : Int32) h94 n0 Z94 (Fw.ext O94.2) (by decide)) hZ (hw _ (List.mem_of_getElem? (i := 45) rfl)) (hw _ (List.mem_of_getElem? (i := 28) rfl)) (by decide) (by decide)) q107a q107c (g := (mkF m 111 #[.val (.int p1), .val (.int p2), .val (.int p3), .val (.int aa), .val (.int bb), .val (.int sel), .val (.long dl), .second, .val (.double dd), .second, .val (.ref mo), .val (.ref w), .val (.ref w)] [(.ref w)])) rfl (by rw [hml]; rfl) (Steps.refl _) (argsL := []) (rest := []) (lenOf pd_5 rfl) rfl (by show 2 * 0 + _ ≤ _; exact Nat.le_of_eq rfl) (hb hby at_111) (fun _ _ => ⟨rfl, e104, (by decide : ((((0 + 1) + 0) + 0) + 0) + 0 ≤ _), (by decide : ((((0 + 3) + 0) + 0) + 0) + 0 ≤ _)⟩)
    dsimp only [Pt.U, Pt.locs, Pt.cells, Pt.slots] at X107 l107 y107 z107 st107 hQ107
    subst l107 y107 z107
    obtain ⟨rfl, Nq107, e107⟩ := hQ107
    have N107 := Fr.app N104 Nq107
    have r108 : Steps p.tables e below S0 (T107.setTop (mkF m 114 #[.val (.int p1), .val (.int p2), .val (.int p3), .val (.int aa), .val (.int bb), .val (.int sel), .val (.long dl), .second, .val (.double dd), .second, .val (.ref mo), .val (.ref w), .val (.ref w)] [(.int (0 : Int32))])) := r106.trans st107
    have r109 : Steps p.tables e below S0 (T107.setTop (mkF m 119 #[.val (.int p1), .val (.int p2), .val (.int p3), .val (.int aa), .val (.int bb), .val (.int sel), .val (.long dl), .second, .val (.double dd), .second, .val (.ref mo), .val (.ref w), .val (.ref w)] [(.ref w)])) := by
      refine r108.trans ?_
      show Steps p.tables e below (T107.setTop (mkF m 114 #[.val (.int p1), .val (.int p2), .val (.int p3), .val (.int aa), .val (.int bb), .val (.int sel), .val (.long dl), .second, .val (.double dd), .second, .val (.ref mo), .val (.ref w), .val (.ref w)] [(.int (0 : Int32))])) _
      refine XS.ifNo X107.here hx rfl (hb hby at_114) rfl ((if0 _ _).trans (teq rfl).2) ?_
      show Steps p.tables e below (T107.setTop (mkF m 117 #[.val (.int p1), .val (.int p2), .val (.int p3), .val (.int aa), .val (.int bb), .val (.int sel), .val (.long dl), .second, .val (.double dd), .second, .val (.ref mo), .val (.ref w), .val (.ref w)] [])) _
      refine XS.aload X107.here hx rfl (hb hby at_117) rfl rfl ?_
      exact Steps.refl _
    obtain ⟨cq110, kq110, q110a, q110b, q110c⟩ := isOf hZ e107 (Ew.ext O94.2)
    obtain ⟨_, _, ⟨T110, L110, k110, n110⟩, -, X110, ⟨Lc110, hQ110, l110, y110, z110⟩, st110⟩ := X107.virtualBack hx (y := (⟨"java/util/OptionalDouble", "isPresent", "()Z"⟩ : MethodName)) (z := (⟨"java/util/OptionalDouble", "isPresent", "()Z"⟩ : MethodName)) hown (mvT hZ (hw _ (List.mem_of_getElem? (i := 41) rfl))) (mvT hZ (hw _ (List.mem_of_getElem? (i := 42) rfl))) (notFace_of_selects (args := #[]) (mvT hZ (hw _ (List.mem_of_getElem? (i := 44) rfl)))) (mvT hZ (hw _ (List.mem_of_getElem? (i := 44) rfl))) (mvT hZ (hw _ (List.mem_of_getElem? (i := 43) rfl))) (by decide) (backOf (W := 0) (rmP l Z a0 hw [] w (0 : Int32) h94 n0 Z94 (Fw.ext O94.2) (by decide)) hZ (hw _ (List.mem_of_getElem? (i := 45) rfl)) (hw _ (List.mem_of_getElem? (i := 28) rfl)) (by decide) (by decide)) q110a q110c (g := (mkF m 119 #[.val (.int p1), .val (.int p2), .val (.int p3), .val (.int aa), .val (.int bb), .val (.int sel), .val (.long dl), .second, .val (.double dd), .second, .val (.ref mo), .val (.ref w), .val (.ref w)] [(.ref w)])) rfl (by rw [hml]; rfl) (Steps.refl _) (argsL := []) (rest := []) (lenOf pd_5 rfl) rfl (by show 2 * 0 + _ ≤ _; exact Nat.le_of_eq rfl) (hb hby at_119) (fun _ _ => ⟨rfl, e107, (by decide : (((((0 + 1) + 0) + 0) + 0) + 0) + 0 ≤ _), (by decide : (((((0 + 3) + 0) + 0) + 0) + 0) + 0 ≤ _)⟩)
    dsimp only [Pt.U, Pt.locs, Pt.cells, Pt.slots] at X110 l110 y110 z110 st110 hQ110
    subst l110 y110 z110
    obtain ⟨rfl, Nq110, e110⟩ := hQ110
    have N110 := Fr.app N107 Nq110
    have r111 : Steps p.tables e below S0 (T110.setTop (mkF m 122 #[.val (.int p1), .val (.int p2), .val (.int p3), .val (.int aa), .val (.int bb), .val (.int sel), .val (.long dl), .second, .val (.double dd), .second, .val (.ref mo), .val (.ref w), .val (.ref w)] [(.int (0 : Int32))])) := r109.trans st110
    have r112 : Steps p.tables e below S0 (T110.setTop (mkF m 130 #[.val (.int p1), .val (.int p2), .val (.int p3), .val (.int aa), .val (.int bb), .val (.int sel), .val (.long dl), .second, .val (.double dd), .second, .val (.ref mo), .val (.ref w), .val (.ref w)] [(.int (1 : Int32))])) := by
      refine r111.trans ?_
      show Steps p.tables e below (T110.setTop (mkF m 122 #[.val (.int p1), .val (.int p2), .val (.int p3), .val (.int aa), .val (.int bb), .val (.int sel), .val (.long dl), .second, .val (.double dd), .second, .val (.ref mo), .val (.ref w), .val (.ref w)] [(.int (0 : Int32))])) _
      refine XS.ifNo X110.here hx rfl (hb hby at_122) rfl ((if0 _ _).trans (teq rfl).2) ?_
      show Steps p.tables e below (T110.setTop (mkF m 125 #[.val (.int p1), .val (.int p2), .val (.int p3), .val (.int aa), .val (.int bb), .val (.int sel), .val (.long dl), .second, .val (.double dd), .second, .val (.ref mo), .val (.ref w), .val (.ref w)] [])) _
      refine XS.iconst X110.here hx rfl (hb hby at_125) ?_
      show Steps p.tables e below (T110.setTop (mkF m 126 #[.val (.int p1), .val (.int p2), .val (.int p3), .val (.int aa), .val (.int bb), .val (.int sel), .val (.long dl), .second, .val (.double dd), .second, .val (.ref mo), .val (.ref w), .val (.ref w)] [(.int (1 : Int32))])) _
      refine XS.goto X110.here hx rfl (pc0 := 126) (pc' := 130) rfl (hb hby at_126) (by decide) (by decide) ?_
      exact Steps.refl _
    obtain ⟨fs, hr, hrun, hended, hW, hsame⟩ := X110.leave (v := some (.int (1 : Int32))) (fun h => by rw [Bd.returns] at h; cases h)
    refine ⟨_, _, pre0 _ ?_, hrun, hended, _, _, rfl, ?_, ⟨_, rfl⟩, hW, hsame.mono (by decide) (by decide)⟩
    · rw [← hS0]
      refine r112.trans ?_
      show Steps p.tables e below (T110.setTop (mkF m 130 #[.val (.int p1), .val (.int p2), .val (.int p3), .val (.int aa), .val (.int bb), .val (.int sel), .val (.long dl), .second, .val (.double dd), .second, .val (.ref mo), .val (.ref w), .val (.ref w)] [(.int (1 : Int32))])) _
      exact retB X110 hx Bd.returns (by first | exact Or.inr rfl | exact Or.inl rfl | (split <;> simp)) (hb hby at_130) hr
    · exact ⟨rfl, N110⟩
  · skip
    have hcn1 : ((0 : Int64) + (1 : Int64)).toInt = 1 := by decide
    obtain ⟨m1, s1, hA1, ym1, ys1⟩ := st1 ya (by omega) hcn1
    have r113 : Steps p.tables e below S0 (T97.setTop (mkF m 51 #[.val (.int p1), .val (.int p2), .val (.int p3), .val (.int aa), .val (.int bb), .val (.int sel), .val (.long dl), .second, .val (.double dd), .second, .val (.ref mo), .unset, .unset] [(.double (FP.i2d aa)), (.ref mo)])) := by
      refine r99.trans ?_
      show Steps p.tables e below (T97.setTop (mkF m 44 #[.val (.int p1), .val (.int p2), .val (.int p3), .val (.int aa), .val (.int bb), .val (.int sel), .val (.long dl), .second, .val (.double dd), .second, .val (.ref mo), .unset, .unset] [(.int (1 : Int32)), (.int sel)])) _
      refine XS.icmpNo X97.here hx rfl (hb hby at_44) rfl (flt (by rw [hs] <;> decide)).1 ?_
      show Steps p.tables e below (T97.setTop (mkF m 47 #[.val (.int p1), .val (.int p2), .val (.int p3), .val (.int aa), .val (.int bb), .val (.int sel), .val (.long dl), .second, .val (.double dd), .second, .val (.ref mo), .unset, .unset] [])) _
      refine XS.aload X97.here hx rfl (hb hby at_47) rfl rfl ?_
      show Steps p.tables e below (T97.setTop (mkF m 49 #[.val (.int p1), .val (.int p2), .val (.int p3), .val (.int aa), .val (.int bb), .val (.int sel), .val (.long dl), .second, .val (.double dd), .second, .val (.ref mo), .unset, .unset] [(.ref mo)])) _
      refine XS.iloadN X97.here hx rfl (hb hby at_49) rfl ?_
      show Steps p.tables e below (T97.setTop (mkF m 50 #[.val (.int p1), .val (.int p2), .val (.int p3), .val (.int aa), .val (.int bb), .val (.int sel), .val (.long dl), .second, .val (.double dd), .second, .val (.ref mo), .unset, .unset] [(.int aa), (.ref mo)])) _
      refine XS.i2dS X97.here hx rfl (hb hby at_50) rfl rfl ?_
      exact Steps.refl _
    obtain ⟨cq114, kq114, q114a, q114b, q114c⟩ := isOf hZ e97 A94
    obtain ⟨_, _, ⟨T114, L114, k114, n114⟩, -, X114, ⟨Lc114, hQ114, l114, y114, z114⟩, st114⟩ := X97.virtualBack hx (y := (⟨"org/rowfold/aggregate/Moments", "add", "(D)V"⟩ : MethodName)) (z := (⟨"org/rowfold/aggregate/Moments", "add", "(D)V"⟩ : MethodName)) hown (mvT hZ (hw _ (List.mem_of_getElem? (i := 10) rfl))) (mvT hZ (hw _ (List.mem_of_getElem? (i := 11) rfl))) (notFace_of_selects (args := #[]) (mvT hZ (hw _ (List.mem_of_getElem? (i := 13) rfl)))) (mvT hZ (hw _ (List.mem_of_getElem? (i := 13) rfl))) (mvT hZ (hw _ (List.mem_of_getElem? (i := 12) rfl))) (by decide) (backOf (W := 0) (rmA l Z a0 hw [] mo (FP.i2d aa) (0 : Int64) (0 : UInt64) (0 : UInt64) m1 s1 h94 n0 Z94 F_mo_count F_mo_mean F_mo_squares A94 g_mo hA1) hZ (hw _ (List.mem_of_getElem? (i := 14) rfl)) (hw _ (List.mem_of_getElem? (i := 3) rfl)) (by decide) (by decide)) q114a q114c (g := (mkF m 51 #[.val (.int p1), .val (.int p2), .val (.int p3), .val (.int aa), .val (.int bb), .val (.int sel), .val (.long dl), .second, .val (.double dd), .second, .val (.ref mo), .unset, .unset] [(.double (FP.i2d aa)), (.ref mo)])) rfl (by rw [hml]; rfl) (Steps.refl _) (argsL := [(.double (FP.i2d aa))]) (rest := []) (lenOf pd_0 rfl) rfl (by show 2 * 0 + _ ≤ _; exact Nat.le_of_eq rfl) (hb hby at_51) (fun _ _ => ⟨rfl, e97, (by decide : ((0 + 1) + 0) + 0 ≤ _), (by decide : ((0 + 3) + 0) + 0 ≤ _)⟩)
    dsimp only [Pt.U, Pt.locs, Pt.cells, Pt.slots] at X114 l114 y114 z114 st114 hQ114
    subst l114 y114 z114
    obtain ⟨rfl, Nq114, Kc114, Ec114, Fc114, Fm114, Fs114⟩ := hQ114
    have N114 := Fr.app N97 Nq114
    have r115 : Steps p.tables e below S0 (T114.setTop (mkF m 54 #[.val (.int p1), .val (.int p2), .val (.int p3), .val (.int aa), .val (.int bb), .val (.int sel), .val (.long dl), .second, .val (.double dd), .second, .val (.ref mo), .unset, .unset] [])) := r113.trans st114
    have E114_mo := A94.keep Kc114
    have Z114 : n0 ≤ T114.heap.size := Nat.le_trans Z94 Kc114.1
    have O114 := O94.keep Kc114 (allS g_mo (all0))
    obtain ⟨v1, hv1⟩ : ∃ z, FP.ddiv s1 (FP.l2d ((0 : Int64) + (1 : Int64))) = z := ⟨_, rfl⟩
    have yv1 : Dy 0 0 v1 := hv1 ▸ ys1.div (dy_l (n := 1) (by decide) (by decide)) (by decide) (by omega) (by decide) (by decide)
    have nv1 := yv1.noNaN
    have r116 : Steps p.tables e below S0 (T114.setTop (mkF m 91 #[.val (.int p1), .val (.int p2), .val (.int p3), .val (.int aa), .val (.int bb), .val (.int sel), .val (.long dl), .second, .val (.double dd), .second, .val (.ref mo), .unset, .unset] [(.int (0 : Int32)), (.ref mo)])) := by
      refine r115.trans ?_
      show Steps p.tables e below (T114.setTop (mkF m 54 #[.val (.int p1), .val (.int p2), .val (.int p3), .val (.int aa), .val (.int bb), .val (.int sel), .val (.long dl), .second, .val (.double dd), .second, .val (.ref mo), .unset, .unset] [])) _
      refine XS.iload X114.here hx rfl (hb hby at_54) rfl ?_
      show Steps p.tables e below (T114.setTop (mkF m 56 #[.val (.int p1), .val (.int p2), .val (.int p3), .val (.int aa), .val (.int bb), .val (.int sel), .val (.long dl), .second, .val (.double dd), .second, .val (.ref mo), .unset, .unset] [(.int sel)])) _
      refine XS.iconst X114.here hx rfl (hb hby at_56) ?_
      show Steps p.tables e below (T114.setTop (mkF m 57 #[.val (.int p1), .val (.int p2), .val (.int p3), .val (.int aa), .val (.int bb), .val (.int sel), .val (.long dl), .second, .val (.double dd), .second, .val (.ref mo), .unset, .unset] [(.int (2 : Int32)), (.int sel)])) _
      refine XS.icmpYes X114.here hx rfl (pc0 := 57) (pc' := 68) rfl (hb hby at_57) rfl (tlt (by rw [hs] <;> decide)).1 (by decide) (by decide) ?_
      show Steps p.tables e below (T114.setTop (mkF m 68 #[.val (.int p1), .val (.int p2), .val (.int p3), .val (.int aa), .val (.int bb), .val (.int sel), .val (.long dl), .second, .val (.double dd), .second, .val (.ref mo), .unset, .unset] [])) _
      refine XS.iload X114.here hx rfl (hb hby at_68) rfl ?_
      show Steps p.tables e below (T114.setTop (mkF m 70 #[.val (.int p1), .val (.int p2), .val (.int p3), .val (.int aa), .val (.int bb), .val (.int sel), .val (.long dl), .second, .val (.double dd), .second, .val (.ref mo), .unset, .unset] [(.int sel)])) _
      refine XS.iconst X114.here hx rfl (hb hby at_70) ?_
      show Steps p.tables e below (T114.setTop (mkF m 71 #[.val (.int p1), .val (.int p2), .val (.int p3), .val (.int aa), .val (.int bb), .val (.int sel), .val (.long dl), .second, .val (.double dd), .second, .val (.ref mo), .unset, .unset] [(.int (3 : Int32)), (.int sel)])) _
      refine XS.icmpYes X114.here hx rfl (pc0 := 71) (pc' := 88) rfl (hb hby at_71) rfl (tlt (by rw [hs] <;> decide)).1 (by decide) (by decide) ?_
      show Steps p.tables e below (T114.setTop (mkF m 88 #[.val (.int p1), .val (.int p2), .val (.int p3), .val (.int aa), .val (.int bb), .val (.int sel), .val (.long dl), .second, .val (.double dd), .second, .val (.ref mo), .unset, .unset] [])) _
      refine XS.aload X114.here hx rfl (hb hby at_88) rfl rfl ?_
      show Steps p.tables e below (T114.setTop (mkF m 90 #[.val (.int p1), .val (.int p2), .val (.int p3), .val (.int aa), .val (.int bb), .val (.int sel), .val (.long dl), .second, .val (.double dd), .second, .val (.ref mo), .unset, .unset] [(.ref mo)])) _
      refine XS.iconst X114.here hx rfl (hb hby at_90) ?_
      exact Steps.refl _
    obtain ⟨cq117, kq117, q117a, q117b, q117c⟩ := isOf hZ rfl Ec114
    obtain ⟨_, _, ⟨T117, L117, k117, n117⟩, -, X117, ⟨Lc117, hQ117, l117, y117, z117⟩, st117⟩ := X114.virtualBack hx (y := (⟨"org/rowfold/aggregate/Moments", "variance", "(Z)Ljava/util/OptionalDouble;"⟩ : MethodName)) (z := (⟨"org/rowfold/aggregate/Moments", "variance", "(Z)Ljava/util/OptionalDouble;"⟩ : MethodName)) hown (mvT hZ (hw _ (List.mem_of_getElem? (i := 21) rfl))) (mvT hZ (hw _ (List.mem_of_getElem? (i := 22) rfl))) (notFace_of_selects (args := #[]) (mvT hZ (hw _ (List.mem_of_getElem? (i := 24) rfl)))) (mvT hZ (hw _ (List.mem_of_getElem? (i := 24) rfl))) (mvT hZ (hw _ (List.mem_of_getElem? (i := 23) rfl))) (by decide) (backOf (W := 0) (rmV0o l Z a0 hw [] mo (0 : Int32) ((0 : Int64) + (1 : Int64)) s1 v1 T114.heap n0 Z114 rfl Fc114 Fs114 (by decide) hv1 nv1) hZ (hw _ (List.mem_of_getElem? (i := 25) rfl)) (hw _ (List.mem_of_getElem? (i := 3) rfl)) (by decide) (by decide)) q117a q117c (g := (mkF m 91 #[.val (.int p1), .val (.int p2), .val (.int p3), .val (.int aa), .val (.int bb), .val (.int sel), .val (.long dl), .second, .val (.double dd), .second, .val (.ref mo), .unset, .unset] [(.int (0 : Int32)), (.ref mo)])) rfl (by rw [hml]; rfl) (Steps.refl _) (argsL := [(.int (0 : Int32))]) (rest := []) (lenOf pd_4 rfl) rfl (by show 2 * 0 + _ ≤ _; exact Nat.le_of_eq rfl) (hb hby at_91) (fun _ _ => ⟨rfl, rfl, (by decide : (((0 + 1) + 0) + 0) + 1 ≤ _), (by decide : (((0 + 3) + 0) + 0) + 2 ≤ _)⟩)
    dsimp only [Pt.U, Pt.locs, Pt.cells, Pt.slots] at X117 l117 y117 z117 st117 hQ117
    subst l117 y117 z117
    obtain ⟨b1, rfl, sbb1, Ebb1, Fpb1, Fvb1, Kc117, Nq117⟩ := hQ117
    have N117 := Fr.app N114 Nq117
    have r118 : Steps p.tables e below S0 (T117.setTop (mkF m 94 #[.val (.int p1), .val (.int p2), .val (.int p3), .val (.int aa), .val (.int bb), .val (.int sel), .val (.long dl), .second, .val (.double dd), .second, .val (.ref mo), .unset, .unset] [(.ref b1)])) := r116.trans st117
    have F117_mo_count := Fc114.keep Kc117 nin0
    have F117_mo_mean := Fm114.keep Kc117 nin0
    have F117_mo_squares := Fs114.keep Kc117 nin0
    have E117_mo := Ec114.keep Kc117
    have Z117 : n0 ≤ T117.heap.size := Nat.le_trans Z114 Kc117.1
    have O117 := O114.keep Kc117 (all0)
    have r119 : Steps p.tables e below S0 (T117.setTop (mkF m 99 #[.val (.int p1), .val (.int p2), .val (.int p3), .val (.int aa), .val (.int bb), .val (.int sel), .val (.long dl), .second, .val (.double dd), .second, .val (.ref mo), .val (.ref b1), .unset] [(.int (1 : Int32)), (.ref mo)])) := by
      refine r118.trans ?_
      show Steps p.tables e below (T117.setTop (mkF m 94 #[.val (.int p1), .val (.int p2), .val (.int p3), .val (.int aa), .val (.int bb), .val (.int sel), .val (.long dl), .second, .val (.double dd), .second, .val (.ref mo), .unset, .unset] [(.ref b1)])) _
      refine XS.astore X117.here hx rfl (hb hby at_94) rfl rfl (l' := #[.val (.int p1), .val (.int p2), .val (.int p3), .val (.int aa), .val (.int bb), .val (.int sel), .val (.long dl), .second, .val (.double dd), .second, .val (.ref mo), .val (.ref b1), .unset]) rfl ?_
      show Steps p.tables e below (T117.setTop (mkF m 96 #[.val (.int p1), .val (.int p2), .val (.int p3), .val (.int aa), .val (.int bb), .val (.int sel), .val (.long dl), .second, .val (.double dd), .second, .val (.ref mo), .val (.ref b1), .unset] [])) _
      refine XS.aload X117.here hx rfl (hb hby at_96) rfl rfl ?_
      show Steps p.tables e below (T117.setTop (mkF m 98 #[.val (.int p1), .val (.int p2), .val (.int p3), .val (.int aa), .val (.int bb), .val (.int sel), .val (.long dl), .second, .val (.double dd), .second, .val (.ref mo), .val (.ref b1), .unset] [(.ref mo)])) _
      refine XS.iconst X117.here hx rfl (hb hby at_98) ?_
      exact Steps.refl _
    obtain ⟨cq120, kq120, q120a, q120b, q120c⟩ := isOf hZ rfl E117_mo
    obtain ⟨_, _, ⟨T120, L120, k120, n120⟩, -, X120, ⟨Lc120, hQ120, l120, y120, z120⟩, st120⟩ := X117.virtualBack hx (y := (⟨"org/rowfold/aggregate/Moments", "variance", "(Z)Ljava/util/OptionalDouble;"⟩ : MethodName)) (z := (⟨"org/rowfold/aggregate/Moments", "variance", "(Z)Ljava/util/OptionalDouble;"⟩ : MethodName)) hown (mvT hZ (hw _ (List.mem_of_getElem? (i := 21) rfl))) (mvT hZ (hw _ (List.mem_of_getElem? (i := 22) rfl))) (notFace_of_selects (args := #[]) (mvT hZ (hw _ (List.mem_of_getElem? (i := 24) rfl)))) (mvT hZ (hw _ (List.mem_of_getElem? (i := 24) rfl))) (mvT hZ (hw _ (List.mem_of_getElem? (i := 23) rfl))) (by decide) (backOf (W := 0) (rmV1e l Z a0 hw [] mo (1 : Int32) ((0 : Int64) + (1 : Int64)) w T117.heap n0 Z117 (by decide) F117_mo_count (Sw.ext O117.2) (by decide)) hZ (hw _ (List.mem_of_getElem? (i := 25) rfl)) (hw _ (List.mem_of_getElem? (i := 3) rfl)) (by decide) (by decide)) q120a q120c (g := (mkF m 99 #[.val (.int p1), .val (.int p2), .val (.int p3), .val (.int aa), .val (.int bb), .val (.int sel), .val (.long dl), .second, .val (.double dd), .second, .val (.ref mo), .val (.ref b1), .unset] [(.int (1 : Int32)), (.ref mo)])) rfl (by rw [hml]; rfl) (Steps.refl _) (argsL := [(.int (1 : Int32))]) (rest := []) (lenOf pd_4 rfl) rfl (by show 2 * 0 + _ ≤ _; exact Nat.le_of_eq rfl) (hb hby at_99) (fun _ _ => ⟨rfl, rfl, (by decide : ((((0 + 1) + 0) + 0) + 1) + 0 ≤ _), (by decide : ((((0 + 3) + 0) + 0) + 2) + 0 ≤ _)⟩)
    dsimp only [Pt.U, Pt.locs, Pt.cells, Pt.slots] at X120 l120 y120 z120 st120 hQ120
    subst l120 y120 z120
    obtain ⟨rfl, Nq120, e120⟩ := hQ120
    have N120 := Fr.app N117 Nq120
    have r121 : Steps p.tables e below S0 (T120.setTop (mkF m 102 #[.val (.int p1), .val (.int p2), .val (.int p3), .val (.int aa), .val (.int bb), .val (.int sel), .val (.long dl), .second, .val (.double dd), .second, .val (.ref mo), .val (.ref b1), .unset] [(.ref w)])) := r119.trans st120
    have r122 : Steps p.tables e below S0 (T120.setTop (mkF m 139 #[.val (.int p1), .val (.int p2), .val (.int p3), .val (.int aa), .val (.int bb), .val (.int sel), .val (.long dl), .second, .val (.double dd), .second, .val (.ref mo), .val (.ref b1), .val (.ref w)] [(.ref b1)])) := by
      refine r121.trans ?_
      show Steps p.tables e below (T120.setTop (mkF m 102 #[.val (.int p1), .val (.int p2), .val (.int p3), .val (.int aa), .val (.int bb), .val (.int sel), .val (.long dl), .second, .val (.double dd), .second, .val (.ref mo), .val (.ref b1), .unset] [(.ref w)])) _
      refine XS.astore X120.here hx rfl (hb hby at_102) rfl rfl (l' := #[.val (.int p1), .val (.int p2), .val (.int p3), .val (.int aa), .val (.int bb), .val (.int sel), .val (.long dl), .second, .val (.double dd), .second, .val (.ref mo), .val (.ref b1), .val (.ref w)]) rfl ?_
      show Steps p.tables e below (T120.setTop (mkF m 104 #[.val (.int p1), .val (.int p2), .val (.int p3), .val (.int aa), .val (.int bb), .val (.int sel), .val (.long dl), .second, .val (.double dd), .second, .val (.ref mo), .val (.ref b1), .val (.ref w)] [])) _
      refine XS.iload X120.here hx rfl (hb hby at_104) rfl ?_
      show Steps p.tables e below (T120.setTop (mkF m 106 #[.val (.int p1), .val (.int p2), .val (.int p3), .val (.int aa), .val (.int bb), .val (.int sel), .val (.long dl), .second, .val (.double dd), .second, .val (.ref mo), .val (.ref b1), .val (.ref w)] [(.int sel)])) _
      refine XS.ifYes X120.here hx rfl (pc0 := 106) (pc' := 131) rfl (hb hby at_106) rfl ((if0 _ _).trans (feq (by rw [hs] <;> decide)).2) (by decide) (by decide) ?_
      show Steps p.tables e below (T120.setTop (mkF m 131 #[.val (.int p1), .val (.int p2), .val (.int p3), .val (.int aa), .val (.int bb), .val (.int sel), .val (.long dl), .second, .val (.double dd), .second, .val (.ref mo), .val (.ref b1), .val (.ref w)] [])) _
      refine XS.iload X120.here hx rfl (hb hby at_131) rfl ?_
      show Steps p.tables e below (T120.setTop (mkF m 133 #[.val (.int p1), .val (.int p2), .val (.int p3), .val (.int aa), .val (.int bb), .val (.int sel), .val (.long dl), .second, .val (.double dd), .second, .val (.ref mo), .val (.ref b1), .val (.ref w)] [(.int sel)])) _
      refine XS.iconst X120.here hx rfl (hb hby at_133) ?_
      show Steps p.tables e below (T120.setTop (mkF m 134 #[.val (.int p1), .val (.int p2), .val (.int p3), .val (.int aa), .val (.int bb), .val (.int sel), .val (.long dl), .second, .val (.double dd), .second, .val (.ref mo), .val (.ref b1), .val (.ref w)] [(.int (1 : Int32)), (.int sel)])) _
      refine XS.icmpNo X120.here hx rfl (hb hby at_134) rfl (teq hs).2 ?_
      show Steps p.tables e below (T120.setTop (mkF m 137 #[.val (.int p1), .val (.int p2), .val (.int p3), .val (.int aa), .val (.int bb), .val (.int sel), .val (.long dl), .second, .val (.double dd), .second, .val (.ref mo), .val (.ref b1), .val (.ref w)] [])) _
      refine XS.aload X120.here hx rfl (hb hby at_137) rfl rfl ?_
      exact Steps.refl _
    obtain ⟨cq123, kq123, q123a, q123b, q123c⟩ := isOf hZ e120 Ebb1
    obtain ⟨_, _, ⟨T123, L123, k123, n123⟩, -, X123, ⟨Lc123, hQ123, l123, y123, z123⟩, st123⟩ := X120.virtualBack hx (y := (⟨"java/util/OptionalDouble", "isPresent", "()Z"⟩ : MethodName)) (z := (⟨"java/util/OptionalDouble", "isPresent", "()Z"⟩ : MethodName)) hown (mvT hZ (hw _ (List.mem_of_getElem? (i := 41) rfl))) (mvT hZ (hw _ (List.mem_of_getElem? (i := 42) rfl))) (notFace_of_selects (args := #[]) (mvT hZ (hw _ (List.mem_of_getElem? (i := 44) rfl)))) (mvT hZ (hw _ (List.mem_of_getElem? (i := 44) rfl))) (mvT hZ (hw _ (List.mem_of_getElem? (i := 43) rfl))) (by decide) (backOf (W := 0) (rmP l Z a0 hw [] b1 (1 : Int32) T117.heap n0 Z117 Fpb1 (by decide)) hZ (hw _ (List.mem_of_getElem? (i := 45) rfl)) (hw _ (List.mem_of_getElem? (i := 28) rfl)) (by decide) (by decide)) q123a q123c (g := (mkF m 139 #[.val (.int p1), .val (.int p2), .val (.int p3), .val (.int aa), .val (.int bb), .val (.int sel), .val (.long dl), .second, .val (.double dd), .second, .val (.ref mo), .val (.ref b1), .val (.ref w)] [(.ref b1)])) rfl (by rw [hml]; rfl) (Steps.refl _) (argsL := []) (rest := []) (lenOf pd_5 rfl) rfl (by show 2 * 0 + _ ≤ _; exact Nat.le_of_eq rfl) (hb hby at_139) (fun _ _ => ⟨rfl, e120, (by decide : (((((0 + 1) + 0) + 0) + 1) + 0) + 0 ≤ _), (by decide : (((((0 + 3) + 0) + 0) + 2) + 0) + 0 ≤ _)⟩)
    dsimp only [Pt.U, Pt.locs, Pt.cells, Pt.slots] at X123 l123 y123 z123 st123 hQ123
    subst l123 y123 z123
    obtain ⟨rfl, Nq123, e123⟩ := hQ123
    have N123 := Fr.app N120 Nq123
    have r124 : Steps p.tables e below S0 (T123.setTop (mkF m 142 #[.val (.int p1), .val (.int p2), .val (.int p3), .val (.int aa), .val (.int bb), .val (.int sel), .val (.long dl), .second, .val (.double dd), .second, .val (.ref mo), .val (.ref b1), .val (.ref w)] [(.int (1 : Int32))])) := r122.trans st123
    have r125 : Steps p.tables e below S0 (T123.setTop (mkF m 147 #[.val (.int p1), .val (.int p2), .val (.int p3), .val (.int aa), .val (.int bb), .val (.int sel), .val (.long dl), .second, .val (.double dd), .second, .val (.ref mo), .val (.ref b1), .val (.ref w)] [(.ref b1)])) := by
      refine r124.trans ?_
      show Steps p.tables e below (T123.setTop (mkF m 142 #[.val (.int p1), .val (.int p2), .val (.int p3), .val (.int aa), .val (.int bb), .val (.int sel), .val (.long dl), .second, .val (.double dd), .second, .val (.ref mo), .val (.ref b1), .val (.ref w)] [(.int (1 : Int32))])) _
      refine XS.ifNo X123.here hx rfl (hb hby at_142) rfl ((if0 _ _).trans (feq (by decide)).1) ?_
      show Steps p.tables e below (T123.setTop (mkF m 145 #[.val (.int p1), .val (.int p2), .val (.int p3), .val (.int aa), .val (.int bb), .val (.int sel), .val (.long dl), .second, .val (.double dd), .second, .val (.ref mo), .val (.ref b1), .val (.ref w)] [])) _
      refine XS.aload X123.here hx rfl (hb hby at_145) rfl rfl ?_
      exact Steps.refl _
    obtain ⟨cq126, kq126, q126a, q126b, q126c⟩ := isOf hZ e123 Ebb1
    obtain ⟨_, _, ⟨T126, L126, k126, n126⟩, -, X126, ⟨Lc126, hQ126, l126, y126, z126⟩, st126⟩ := X123.virtualBack hx (y := (⟨"java/util/OptionalDouble", "getAsDouble", "()D"⟩ : MethodName)) (z := (⟨"java/util/OptionalDouble", "getAsDouble", "()D"⟩ : MethodName)) hown (mvT hZ (hw _ (List.mem_of_getElem? (i := 46) rfl))) (mvT hZ (hw _ (List.mem_of_getElem? (i := 47) rfl))) (notFace_of_selects (args := #[]) (mvT hZ (hw _ (List.mem_of_getElem? (i := 49) rfl)))) (mvT hZ (hw _ (List.mem_of_getElem? (i := 49) rfl))) (mvT hZ (hw _ (List.mem_of_getElem? (i := 48) rfl))) (by decide) (backOf (W := 0) (rmG l Z a0 hw [] b1 v1 T117.heap n0 Z117 Fpb1 Fvb1) hZ (hw _ (List.mem_of_getElem? (i := 50) rfl)) (hw _ (List.mem_of_getElem? (i := 28) rfl)) (by decide) (by decide)) q126a q126c (g := (mkF m 147 #[.val (.int p1), .val (.int p2), .val (.int p3), .val (.int aa), .val (.int bb), .val (.int sel), .val (.long dl), .second, .val (.double dd), .second, .val (.ref mo), .val (.ref b1), .val (.ref w)] [(.ref b1)])) rfl (by rw [hml]; rfl) (Steps.refl _) (argsL := []) (rest := []) (lenOf pd_6 rfl) rfl (by show 2 * 0 + _ ≤ _; exact Nat.le_of_eq rfl) (hb hby at_147) (fun _ _ => ⟨rfl, e123, (by decide : ((((((0 + 1) + 0) + 0) + 1) + 0) + 0) + 0 ≤ _), (by decide : ((((((0 + 3) + 0) + 0) + 2) + 0) + 0) + 0 ≤ _)⟩)
    dsimp only [Pt.U, Pt.locs, Pt.cells, Pt.slots] at X126 l126 y126 z126 st126 hQ126
    subst l126 y126 z126
    obtain ⟨rfl, Nq126, e126⟩ := hQ126
    have N126 := Fr.app N123 Nq126
    have r127 : Steps p.tables e below S0 (T126.setTop (mkF m 150 #[.val (.int p1), .val (.int p2), .val (.int p3), .val (.int aa), .val (.int bb), .val (.int sel), .val (.long dl), .second, .val (.double dd), .second, .val (.ref mo), .val (.ref b1), .val (.ref w)] [(.double v1)])) := r125.trans st126
    have r128 : Steps p.tables e below S0 (T126.setTop (mkF m 157 #[.val (.int p1), .val (.int p2), .val (.int p3), .val (.int aa), .val (.int bb), .val (.int sel), .val (.long dl), .second, .val (.double dd), .second, .val (.ref mo), .val (.ref b1), .val (.ref w)] [(.ref w)])) := by
      refine r127.trans ?_
      show Steps p.tables e below (T126.setTop (mkF m 150 #[.val (.int p1), .val (.int p2), .val (.int p3), .val (.int aa), .val (.int bb), .val (.int sel), .val (.long dl), .second, .val (.double dd), .second, .val (.ref mo), .val (.ref b1), .val (.ref w)] [(.double v1)])) _
      refine XS.dconst0 X126.here hx rfl (hb hby at_150) rfl ?_
      show Steps p.tables e below (T126.setTop (mkF m 151 #[.val (.int p1), .val (.int p2), .val (.int p3), .val (.int aa), .val (.int bb), .val (.int sel), .val (.long dl), .second, .val (.double dd), .second, .val (.ref mo), .val (.ref b1), .val (.ref w)] [(.double FP.dconst0), (.double v1)])) _
      refine XS.dcmpS X126.here hx rfl (hb hby at_151) rfl (show cmpValue (FP.dcmp v1 FP.dconst0) .l = (0 : Int32) from (by rw [yv1.cmpV dy_zero]; simp)) ?_
      show Steps p.tables e below (T126.setTop (mkF m 152 #[.val (.int p1), .val (.int p2), .val (.int p3), .val (.int aa), .val (.int bb), .val (.int sel), .val (.long dl), .second, .val (.double dd), .second, .val (.ref mo), .val (.ref b1), .val (.ref w)] [(.int (0 : Int32))])) _
      refine XS.ifNo X126.here hx rfl (hb hby at_152) rfl ((if0 _ _).trans (teq rfl).2) ?_
      show Steps p.tables e below (T126.setTop (mkF m 155 #[.val (.int p1), .val (.int p2), .val (.int p3), .val (.int aa), .val (.int bb), .val (.int sel), .val (.long dl), .second, .val (.double dd), .second, .val (.ref mo), .val (.ref b1), .val (.ref w)] [])) _
      refine XS.aload X126.here hx rfl (hb hby at_155) rfl rfl ?_
      exact Steps.refl _
    obtain ⟨cq129, kq129, q129a, q129b, q129c⟩ := isOf hZ e126 (Ew.ext O117.2)
    obtain ⟨_, _, ⟨T129, L129, k129, n129⟩, -, X129, ⟨Lc129, hQ129, l129, y129, z129⟩, st129⟩ := X126.virtualBack hx (y := (⟨"java/util/OptionalDouble", "isPresent", "()Z"⟩ : MethodName)) (z := (⟨"java/util/OptionalDouble", "isPresent", "()Z"⟩ : MethodName)) hown (mvT hZ (hw _ (List.mem_of_getElem? (i := 41) rfl))) (mvT hZ (hw _ (List.mem_of_getElem? (i := 42) rfl))) (notFace_of_selects (args := #[]) (mvT hZ (hw _ (List.mem_of_getElem? (i := 44) rfl)))) (mvT hZ (hw _ (List.mem_of_getElem? (i := 44) rfl))) (mvT hZ (hw _ (List.mem_of_getElem? (i := 43) rfl))) (by decide) (backOf (W := 0) (rmP l Z a0 hw [] w (0 : Int32) T117.heap n0 Z117 (Fw.ext O117.2) (by decide)) hZ (hw _ (List.mem_of_getElem? (i := 45) rfl)) (hw _ (List.mem_of_getElem? (i := 28) rfl)) (by decide) (by decide)) q129a q129c (g := (mkF m 157 #[.val (.int p1), .val (.int p2), .val (.int p3), .val (.int aa), .val (.int bb), .val (.int sel), .val (.long dl), .second, .val (.double dd), .second, .val (.ref mo), .val (.ref b1), .val (.ref w)] [(.ref w)])) rfl (by rw [hml]; rfl) (Steps.refl _) (argsL := []) (rest := []) (lenOf pd_5 rfl) rfl (by show 2 * 0 + _ ≤ _; exact Nat.le_of_eq rfl) (hb hby at_157) (fun _ _ => ⟨rfl, e126, (by decide : (((((((0 + 1) + 0) + 0) + 1) + 0) + 0) + 0) + 0 ≤ _), (by decide : (((((((0 + 3) + 0) + 0) + 2) + 0) + 0) + 0) + 0 ≤ _)⟩)
    dsimp only [Pt.U, Pt.locs, Pt.cells, Pt.slots] at X129 l129 y129 z129 st129 hQ129
    subst l129 y129 z129
    obtain ⟨rfl, Nq129, e129⟩ := hQ129
    have N129 := Fr.app N126 Nq129
    have r130 : Steps p.tables e below S0 (T129.setTop (mkF m 160 #[.val (.int p1), .val (.int p2), .val (.int p3), .val (.int aa), .val (.int bb), .val (.int sel), .val (.long dl), .second, .val (.double dd), .second, .val (.ref mo), .val (.ref b1), .val (.ref w)] [(.int (0 : Int32))])) := r128.trans st129
    have r131 : Steps p.tables e below S0 (T129.setTop (mkF m 168 #[.val (.int p1), .val (.int p2), .val (.int p3), .val (.int aa), .val (.int bb), .val (.int sel), .val (.long dl), .second, .val (.double dd), .second, .val (.ref mo), .val (.ref b1), .val (.ref w)] [(.int (1 : Int32))])) := by
      refine r130.trans ?_
      show Steps p.tables e below (T129.setTop (mkF m 160 #[.val (.int p1), .val (.int p2), .val (.int p3), .val (.int aa), .val (.int bb), .val (.int sel), .val (.long dl), .second, .val (.double dd), .second, .val (.ref mo), .val (.ref b1), .val (.ref w)] [(.int (0 : Int32))])) _
      refine XS.ifNo X129.here hx rfl (hb hby at_160) rfl ((if0 _ _).trans (teq rfl).2) ?_
      show Steps p.tables e below (T129.setTop (mkF m 163 #[.val (.int p1), .val (.int p2), .val (.int p3), .val (.int aa), .val (.int bb), .val (.int sel), .val (.long dl), .second, .val (.double dd), .second, .val (.ref mo), .val (.ref b1), .val (.ref w)] [])) _
      refine XS.iconst X129.here hx rfl (hb hby at_163) ?_
      show Steps p.tables e below (T129.setTop (mkF m 164 #[.val (.int p1), .val (.int p2), .val (.int p3), .val (.int aa), .val (.int bb), .val (.int sel), .val (.long dl), .second, .val (.double dd), .second, .val (.ref mo), .val (.ref b1), .val (.ref w)] [(.int (1 : Int32))])) _
      refine XS.goto X129.here hx rfl (pc0 := 164) (pc' := 168) rfl (hb hby at_164) (by decide) (by decide) ?_
      exact Steps.refl _
    obtain ⟨fs, hr, hrun, hended, hW, hsame⟩ := X129.leave (v := some (.int (1 : Int32))) (fun h => by rw [Bd.returns] at h; cases h)
    refine ⟨_, _, pre0 _ ?_, hrun, hended, _, _, rfl, ?_, ⟨_, rfl⟩, hW, hsame.mono (by decide) (by decide)⟩
    · rw [← hS0]
      refine r131.trans ?_
      show Steps p.tables e below (T129.setTop (mkF m 168 #[.val (.int p1), .val (.int p2), .val (.int p3), .val (.int aa), .val (.int bb), .val (.int sel), .val (.long dl), .second, .val (.double dd), .second, .val (.ref mo), .val (.ref b1), .val (.ref w)] [(.int (1 : Int32))])) _
      exact retB X129 hx Bd.returns (by first | exact Or.inr rfl | exact Or.inl rfl | (split <;> simp)) (hb hby at_168) hr
    · exact ⟨rfl, N129⟩
  · skip
    have hcn1 : ((0 : Int64) + (1 : Int64)).toInt = 1 := by decide
    obtain ⟨m1, s1, hA1, ym1, ys1⟩ := st1 ya (by omega) hcn1
    have r132 : Steps p.tables e below S0 (T97.setTop (mkF m 51 #[.val (.int p1), .val (.int p2), .val (.int p3), .val (.int aa), .val (.int bb), .val (.int sel), .val (.long dl), .second, .val (.double dd), .second, .val (.ref mo), .unset, .unset] [(.double (FP.i2d aa)), (.ref mo)])) := by
      refine r99.trans ?_
      show Steps p.tables e below (T97.setTop (mkF m 44 #[.val (.int p1), .val (.int p2), .val (.int p3), .val (.int aa), .val (.int bb), .val (.int sel), .val (.long dl), .second, .val (.double dd), .second, .val (.ref mo), .unset, .unset] [(.int (1 : Int32)), (.int sel)])) _
      refine XS.icmpNo X97.here hx rfl (hb hby at_44) rfl (flt (by rw [hs] <;> decide)).1 ?_
      show Steps p.tables e below (T97.setTop (mkF m 47 #[.val (.int p1), .val (.int p2), .val (.int p3), .val (.int aa), .val (.int bb), .val (.int sel), .val (.long dl), .second, .val (.double dd), .second, .val (.ref mo), .unset, .unset] [])) _
      refine XS.aload X97.here hx rfl (hb hby at_47) rfl rfl ?_
      show Steps p.tables e below (T97.setTop (mkF m 49 #[.val (.int p1), .val (.int p2), .val (.int p3), .val (.int aa), .val (.int bb), .val (.int sel), .val (.long dl), .second, .val (.double dd), .second, .val (.ref mo), .unset, .unset] [(.ref mo)])) _
      refine XS.iloadN X97.here hx rfl (hb hby at_49) rfl ?_
      show Steps p.tables e below (T97.setTop (mkF m 50 #[.val (.int p1), .val (.int p2), .val (.int p3), .val (.int aa), .val (.int bb), .val (.int sel), .val (.long dl), .second, .val (.double dd), .second, .val (.ref mo), .unset, .unset] [(.int aa), (.ref mo)])) _
      refine XS.i2dS X97.here hx rfl (hb hby at_50) rfl rfl ?_
      exact Steps.refl _
    obtain ⟨cq133, kq133, q133a, q133b, q133c⟩ := isOf hZ e97 A94
    obtain ⟨_, _, ⟨T133, L133, k133, n133⟩, -, X133, ⟨Lc133, hQ133, l133, y133, z133⟩, st133⟩ := X97.virtualBack hx (y := (⟨"org/rowfold/aggregate/Moments", "add", "(D)V"⟩ : MethodName)) (z := (⟨"org/rowfold/aggregate/Moments", "add", "(D)V"⟩ : MethodName)) hown (mvT hZ (hw _ (List.mem_of_getElem? (i := 10) rfl))) (mvT hZ (hw _ (List.mem_of_getElem? (i := 11) rfl))) (notFace_of_selects (args := #[]) (mvT hZ (hw _ (List.mem_of_getElem? (i := 13) rfl)))) (mvT hZ (hw _ (List.mem_of_getElem? (i := 13) rfl))) (mvT hZ (hw _ (List.mem_of_getElem? (i := 12) rfl))) (by decide) (backOf (W := 0) (rmA l Z a0 hw [] mo (FP.i2d aa) (0 : Int64) (0 : UInt64) (0 : UInt64) m1 s1 h94 n0 Z94 F_mo_count F_mo_mean F_mo_squares A94 g_mo hA1) hZ (hw _ (List.mem_of_getElem? (i := 14) rfl)) (hw _ (List.mem_of_getElem? (i := 3) rfl)) (by decide) (by decide)) q133a q133c (g := (mkF m 51 #[.val (.int p1), .val (.int p2), .val (.int p3), .val (.int aa), .val (.int bb), .val (.int sel), .val (.long dl), .second, .val (.double dd), .second, .val (.ref mo), .unset, .unset] [(.double (FP.i2d aa)), (.ref mo)])) rfl (by rw [hml]; rfl) (Steps.refl _) (argsL := [(.double (FP.i2d aa))]) (rest := []) (lenOf pd_0 rfl) rfl (by show 2 * 0 + _ ≤ _; exact Nat.le_of_eq rfl) (hb hby at_51) (fun _ _ => ⟨rfl, e97, (by decide : ((0 + 1) + 0) + 0 ≤ _), (by decide : ((0 + 3) + 0) + 0 ≤ _)⟩)
    dsimp only [Pt.U, Pt.locs, Pt.cells, Pt.slots] at X133 l133 y133 z133 st133 hQ133
    subst l133 y133 z133
    obtain ⟨rfl, Nq133, Kc133, Ec133, Fc133, Fm133, Fs133⟩ := hQ133
    have N133 := Fr.app N97 Nq133
    have r134 : Steps p.tables e below S0 (T133.setTop (mkF m 54 #[.val (.int p1), .val (.int p2), .val (.int p3), .val (.int aa), .val (.int bb), .val (.int sel), .val (.long dl), .second, .val (.double dd), .second, .val (.ref mo), .unset, .unset] [])) := r132.trans st133
    have E133_mo := A94.keep Kc133
    have Z133 : n0 ≤ T133.heap.size := Nat.le_trans Z94 Kc133.1
    have O133 := O94.keep Kc133 (allS g_mo (all0))
    have hcn2 : (((0 : Int64) + (1 : Int64)) + (1 : Int64)).toInt = 2 := by decide
    obtain ⟨m2, s2, hA2, ym2, ys2⟩ := st2 yb ym1 ys1 (by omega) (by omega) hcn2
    have r135 : Steps p.tables e below S0 (T133.setTop (mkF m 65 #[.val (.int p1), .val (.int p2), .val (.int p3), .val (.int aa), .val (.int bb), .val (.int sel), .val (.long dl), .second, .val (.double dd), .second, .val (.ref mo), .unset, .unset] [(.double (FP.i2d bb)), (.ref mo)])) := by
      refine r134.trans ?_
      show Steps p.tables e below (T133.setTop (mkF m 54 #[.val (.int p1), .val (.int p2), .val (.int p3), .val (.int aa), .val (.int bb), .val (.int sel), .val (.long dl), .second, .val (.double dd), .second, .val (.ref mo), .unset, .unset] [])) _
      refine XS.iload X133.here hx rfl (hb hby at_54) rfl ?_
      show Steps p.tables e below (T133.setTop (mkF m 56 #[.val (.int p1), .val (.int p2), .val (.int p3), .val (.int aa), .val (.int bb), .val (.int sel), .val (.long dl), .second, .val (.double dd), .second, .val (.ref mo), .unset, .unset] [(.int sel)])) _
      refine XS.iconst X133.here hx rfl (hb hby at_56) ?_
      show Steps p.tables e below (T133.setTop (mkF m 57 #[.val (.int p1), .val (.int p2), .val (.int p3), .val (.int aa), .val (.int bb), .val (.int sel), .val (.long dl), .second, .val (.double dd), .second, .val (.ref mo), .unset, .unset] [(.int (2 : Int32)), (.int sel)])) _
      refine XS.icmpNo X133.here hx rfl (hb hby at_57) rfl (flt (by rw [hs] <;> decide)).1 ?_
      show Steps p.tables e below (T133.setTop (mkF m 60 #[.val (.int p1), .val (.int p2), .val (.int p3), .val (.int aa), .val (.int bb), .val (.int sel), .val (.long dl), .second, .val (.double dd), .second, .val (.ref mo), .unset, .unset] [])) _
      refine XS.aload X133.here hx rfl (hb hby at_60) rfl rfl ?_
      show Steps p.tables e below (T133.setTop (mkF m 62 #[.val (.int p1), .val (.int p2), .val (.int p3), .val (.int aa), .val (.int bb), .val (.int sel), .val (.long dl), .second, .val (.double dd), .second, .val (.ref mo), .unset, .unset] [(.ref mo)])) _
      refine XS.iload X133.here hx rfl (hb hby at_62) rfl ?_
      show Steps p.tables e below (T133.setTop (mkF m 64 #[.val (.int p1), .val (.int p2), .val (.int p3), .val (.int aa), .val (.int bb), .val (.int sel), .val (.long dl), .second, .val (.double dd), .second, .val (.ref mo), .unset, .unset] [(.int bb), (.ref mo)])) _
      refine XS.i2dS X133.here hx rfl (hb hby at_64) rfl rfl ?_
      exact Steps.refl _
    obtain ⟨cq136, kq136, q136a, q136b, q136c⟩ := isOf hZ rfl Ec133
    obtain ⟨_, _, ⟨T136, L136, k136, n136⟩, -, X136, ⟨Lc136, hQ136, l136, y136, z136⟩, st136⟩ := X133.virtualBack hx (y := (⟨"org/rowfold/aggregate/Moments", "add", "(D)V"⟩ : MethodName)) (z := (⟨"org/rowfold/aggregate/Moments", "add", "(D)V"⟩ : MethodName)) hown (mvT hZ (hw _ (List.mem_of_getElem? (i := 10) rfl))) (mvT hZ (hw _ (List.mem_of_getElem? (i := 11) rfl))) (notFace_of_selects (args := #[]) (mvT hZ (hw _ (List.mem_of_getElem? (i := 13) rfl)))) (mvT hZ (hw _ (List.mem_of_getElem? (i := 13) rfl))) (mvT hZ (hw _ (List.mem_of_getElem? (i := 12) rfl))) (by decide) (backOf (W := 0) (rmA l Z a0 hw [] mo (FP.i2d bb) ((0 : Int64) + (1 : Int64)) m1 s1 m2 s2 T133.heap n0 Z133 Fc133 Fm133 Fs133 Ec133 g_mo hA2) hZ (hw _ (List.mem_of_getElem? (i := 14) rfl)) (hw _ (List.mem_of_getElem? (i := 3) rfl)) (by decide) (by decide)) q136a q136c (g := (mkF m 65 #[.val (.int p1), .val (.int p2), .val (.int p3), .val (.int aa), .val (.int bb), .val (.int sel), .val (.long dl), .second, .val (.double dd), .second, .val (.ref mo), .unset, .unset] [(.double (FP.i2d bb)), (.ref mo)])) rfl (by rw [hml]; rfl) (Steps.refl _) (argsL := [(.double (FP.i2d bb))]) (rest := []) (lenOf pd_0 rfl) rfl (by show 2 * 0 + _ ≤ _; exact Nat.le_of_eq rfl) (hb hby at_65) (fun _ _ => ⟨rfl, rfl, (by decide : (((0 + 1) + 0) + 0) + 0 ≤ _), (by decide : (((0 + 3) + 0) + 0) + 0 ≤ _)⟩)
    dsimp only [Pt.U, Pt.locs, Pt.cells, Pt.slots] at X136 l136 y136 z136 st136 hQ136
    subst l136 y136 z136
    obtain ⟨rfl, Nq136, Kc136, Ec136, Fc136, Fm136, Fs136⟩ := hQ136
    have N136 := Fr.app N133 Nq136
    have r137 : Steps p.tables e below S0 (T136.setTop (mkF m 68 #[.val (.int p1), .val (.int p2), .val (.int p3), .val (.int aa), .val (.int bb), .val (.int sel), .val (.long dl), .second, .val (.double dd), .second, .val (.ref mo), .unset, .unset] [])) := r135.trans st136
    have E136_mo := Ec133.keep Kc136
    have Z136 : n0 ≤ T136.heap.size := Nat.le_trans Z133 Kc136.1
    have O136 := O133.keep Kc136 (allS g_mo (all0))
    have y4 : Dy 4 0 (4616189618054758400 : UInt64) := own_four
    have y2 : Dy 2 0 (4611686018427387904 : UInt64) := own_two
    have ys2' : Dy (((bb.toInt - aa.toInt) * (bb.toInt - aa.toInt)) * 2) 2 s2 := (ys2.scale 1).cast (by rfl) rfl
    obtain ⟨v1, hv1⟩ : ∃ z, FP.ddiv s2 (FP.l2d (((0 : Int64) + (1 : Int64)) + (1 : Int64))) = z := ⟨_, rfl⟩
    have yv1 : Dy ((bb.toInt - aa.toInt) * (bb.toInt - aa.toInt)) 2 v1 := hv1 ▸ ys2'.div (dy_l (n := 2) (by decide) (by decide)) (by decide) rfl (by omega) (by decide)
    have nv1 := yv1.noNaN
    have r138 : Steps p.tables e below S0 (T136.setTop (mkF m 91 #[.val (.int p1), .val (.int p2), .val (.int p3), .val (.int aa), .val (.int bb), .val (.int sel), .val (.long dl), .second, .val (.double dd), .second, .val (.ref mo), .unset, .unset] [(.int (0 : Int32)), (.ref mo)])) := by
      refine r137.trans ?_
      show Steps p.tables e below (T136.setTop (mkF m 68 #[.val (.int p1), .val (.int p2), .val (.int p3), .val (.int aa), .val (.int bb), .val (.int sel), .val (.long dl), .second, .val (.double dd), .second, .val (.ref mo), .unset, .unset] [])) _
      refine XS.iload X136.here hx rfl (hb hby at_68) rfl ?_
      show Steps p.tables e below (T136.setTop (mkF m 70 #[.val (.int p1), .val (.int p2), .val (.int p3), .val (.int aa), .val (.int bb), .val (.int sel), .val (.long dl), .second, .val (.double dd), .second, .val (.ref mo), .unset, .unset] [(.int sel)])) _
      refine XS.iconst X136.here hx rfl (hb hby at_70) ?_
      show Steps p.tables e below (T136.setTop (mkF m 71 #[.val (.int p1), .val (.int p2), .val (.int p3), .val (.int aa), .val (.int bb), .val (.int sel), .val (.long dl), .second, .val (.double dd), .second, .val (.ref mo), .unset, .unset] [(.int (3 : Int32)), (.int sel)])) _
      refine XS.icmpYes X136.here hx rfl (pc0 := 71) (pc' := 88) rfl (hb hby at_71) rfl (tlt (by rw [hs] <;> decide)).1 (by decide) (by decide) ?_
      show Steps p.tables e below (T136.setTop (mkF m 88 #[.val (.int p1), .val (.int p2), .val (.int p3), .val (.int aa), .val (.int bb), .val (.int sel), .val (.long dl), .second, .val (.double dd), .second, .val (.ref mo), .unset, .unset] [])) _
      refine XS.aload X136.here hx rfl (hb hby at_88) rfl rfl ?_
      show Steps p.tables e below (T136.setTop (mkF m 90 #[.val (.int p1), .val (.int p2), .val (.int p3), .val (.int aa), .val (.int bb), .val (.int sel), .val (.long dl), .second, .val (.double dd), .second, .val (.ref mo), .unset, .unset] [(.ref mo)])) _
      refine XS.iconst X136.here hx rfl (hb hby at_90) ?_
      exact Steps.refl _
    obtain ⟨cq139, kq139, q139a, q139b, q139c⟩ := isOf hZ rfl Ec136
    obtain ⟨_, _, ⟨T139, L139, k139, n139⟩, -, X139, ⟨Lc139, hQ139, l139, y139, z139⟩, st139⟩ := X136.virtualBack hx (y := (⟨"org/rowfold/aggregate/Moments", "variance", "(Z)Ljava/util/OptionalDouble;"⟩ : MethodName)) (z := (⟨"org/rowfold/aggregate/Moments", "variance", "(Z)Ljava/util/OptionalDouble;"⟩ : MethodName)) hown (mvT hZ (hw _ (List.mem_of_getElem? (i := 21) rfl))) (mvT hZ (hw _ (List.mem_of_getElem? (i := 22) rfl))) (notFace_of_selects (args := #[]) (mvT hZ (hw _ (List.mem_of_getElem? (i := 24) rfl)))) (mvT hZ (hw _ (List.mem_of_getElem? (i := 24) rfl))) (mvT hZ (hw _ (List.mem_of_getElem? (i := 23) rfl))) (by decide) (backOf (W := 0) (rmV0o l Z a0 hw [] mo (0 : Int32) (((0 : Int64) + (1 : Int64)) + (1 : Int64)) s2 v1 T136.heap n0 Z136 rfl Fc136 Fs136 (by decide) hv1 nv1) hZ (hw _ (List.mem_of_getElem? (i := 25) rfl)) (hw _ (List.mem_of_getElem? (i := 3) rfl)) (by decide) (by decide)) q139a q139c (g := (mkF m 91 #[.val (.int p1), .val (.int p2), .val (.int p3), .val (.int aa), .val (.int bb), .val (.int sel), .val (.long dl), .second, .val (.double dd), .second, .val (.ref mo), .unset, .unset] [(.int (0 : Int32)), (.ref mo)])) rfl (by rw [hml]; rfl) (Steps.refl _) (argsL := [(.int (0 : Int32))]) (rest := []) (lenOf pd_4 rfl) rfl (by show 2 * 0 + _ ≤ _; exact Nat.le_of_eq rfl) (hb hby at_91) (fun _ _ => ⟨rfl, rfl, (by decide : ((((0 + 1) + 0) + 0) + 0) + 1 ≤ _), (by decide : ((((0 + 3) + 0) + 0) + 0) + 2 ≤ _)⟩)
    dsimp only [Pt.U, Pt.locs, Pt.cells, Pt.slots] at X139 l139 y139 z139 st139 hQ139
    subst l139 y139 z139
    obtain ⟨b1, rfl, sbb1, Ebb1, Fpb1, Fvb1, Kc139, Nq139⟩ := hQ139
    have N139 := Fr.app N136 Nq139
    have r140 : Steps p.tables e below S0 (T139.setTop (mkF m 94 #[.val (.int p1), .val (.int p2), .val (.int p3), .val (.int aa), .val (.int bb), .val (.int sel), .val (.long dl), .second, .val (.double dd), .second, .val (.ref mo), .unset, .unset] [(.ref b1)])) := r138.trans st139
    have F139_mo_count := Fc136.keep Kc139 nin0
    have F139_mo_mean := Fm136.keep Kc139 nin0
    have F139_mo_squares := Fs136.keep Kc139 nin0
    have E139_mo := Ec136.keep Kc139
    have Z139 : n0 ≤ T139.heap.size := Nat.le_trans Z136 Kc139.1
    have O139 := O136.keep Kc139 (all0)
    obtain ⟨v2, hv2⟩ : ∃ z, FP.ddiv s2 (FP.l2d ((((0 : Int64) + (1 : Int64)) + (1 : Int64)) - (1 : Int64))) = z := ⟨_, rfl⟩
    have yv2 : Dy ((bb.toInt - aa.toInt) * (bb.toInt - aa.toInt)) 1 v2 := hv2 ▸ ys2.div (dy_l (n := 1) (by decide) (by decide)) (by decide) (by omega) (by omega) (by decide)
    have nv2 := yv2.noNaN
    have r141 : Steps p.tables e below S0 (T139.setTop (mkF m 99 #[.val (.int p1), .val (.int p2), .val (.int p3), .val (.int aa), .val (.int bb), .val (.int sel), .val (.long dl), .second, .val (.double dd), .second, .val (.ref mo), .val (.ref b1), .unset] [(.int (1 : Int32)), (.ref mo)])) := by
      refine r140.trans ?_
      show Steps p.tables e below (T139.setTop (mkF m 94 #[.val (.int p1), .val (.int p2), .val (.int p3), .val (.int aa), .val (.int bb), .val (.int sel), .val (.long dl), .second, .val (.double dd), .second, .val (.ref mo), .unset, .unset] [(.ref b1)])) _
      refine XS.astore X139.here hx rfl (hb hby at_94) rfl rfl (l' := #[.val (.int p1), .val (.int p2), .val (.int p3), .val (.int aa), .val (.int bb), .val (.int sel), .val (.long dl), .second, .val (.double dd), .second, .val (.ref mo), .val (.ref b1), .unset]) rfl ?_
      show Steps p.tables e below (T139.setTop (mkF m 96 #[.val (.int p1), .val (.int p2), .val (.int p3), .val (.int aa), .val (.int bb), .val (.int sel), .val (.long dl), .second, .val (.double dd), .second, .val (.ref mo), .val (.ref b1), .unset] [])) _
      refine XS.aload X139.here hx rfl (hb hby at_96) rfl rfl ?_
      show Steps p.tables e below (T139.setTop (mkF m 98 #[.val (.int p1), .val (.int p2), .val (.int p3), .val (.int aa), .val (.int bb), .val (.int sel), .val (.long dl), .second, .val (.double dd), .second, .val (.ref mo), .val (.ref b1), .unset] [(.ref mo)])) _
      refine XS.iconst X139.here hx rfl (hb hby at_98) ?_
      exact Steps.refl _
    obtain ⟨cq142, kq142, q142a, q142b, q142c⟩ := isOf hZ rfl E139_mo
    obtain ⟨_, _, ⟨T142, L142, k142, n142⟩, -, X142, ⟨Lc142, hQ142, l142, y142, z142⟩, st142⟩ := X139.virtualBack hx (y := (⟨"org/rowfold/aggregate/Moments", "variance", "(Z)Ljava/util/OptionalDouble;"⟩ : MethodName)) (z := (⟨"org/rowfold/aggregate/Moments", "variance", "(Z)Ljava/util/OptionalDouble;"⟩ : MethodName)) hown (mvT hZ (hw _ (List.mem_of_getElem? (i := 21) rfl))) (mvT hZ (hw _ (List.mem_of_getElem? (i := 22) rfl))) (notFace_of_selects (args := #[]) (mvT hZ (hw _ (List.mem_of_getElem? (i := 24) rfl)))) (mvT hZ (hw _ (List.mem_of_getElem? (i := 24) rfl))) (mvT hZ (hw _ (List.mem_of_getElem? (i := 23) rfl))) (by decide) (backOf (W := 0) (rmV1o l Z a0 hw [] mo (1 : Int32) (((0 : Int64) + (1 : Int64)) + (1 : Int64)) s2 v2 T139.heap n0 Z139 (by decide) F139_mo_count F139_mo_squares (by decide) hv2 nv2) hZ (hw _ (List.mem_of_getElem? (i := 25) rfl)) (hw _ (List.mem_of_getElem? (i := 3) rfl)) (by decide) (by decide)) q142a q142c (g := (mkF m 99 #[.val (.int p1), .val (.int p2), .val (.int p3), .val (.int aa), .val (.int bb), .val (.int sel), .val (.long dl), .second, .val (.double dd), .second, .val (.ref mo), .val (.ref b1), .unset] [(.int (1 : Int32)), (.ref mo)])) rfl (by rw [hml]; rfl) (Steps.refl _) (argsL := [(.int (1 : Int32))]) (rest := []) (lenOf pd_4 rfl) rfl (by show 2 * 0 + _ ≤ _; exact Nat.le_of_eq rfl) (hb hby at_99) (fun _ _ => ⟨rfl, rfl, (by decide : (((((0 + 1) + 0) + 0) + 0) + 1) + 1 ≤ _), (by decide : (((((0 + 3) + 0) + 0) + 0) + 2) + 2 ≤ _)⟩)
    dsimp only [Pt.U, Pt.locs, Pt.cells, Pt.slots] at X142 l142 y142 z142 st142 hQ142
    subst l142 y142 z142
    obtain ⟨b2, rfl, sbb2, Ebb2, Fpb2, Fvb2, Kc142, Nq142⟩ := hQ142
    have N142 := Fr.app N139 Nq142
    have r143 : Steps p.tables e below S0 (T142.setTop (mkF m 102 #[.val (.int p1), .val (.int p2), .val (.int p3), .val (.int aa), .val (.int bb), .val (.int sel), .val (.long dl), .second, .val (.double dd), .second, .val (.ref mo), .val (.ref b1), .unset] [(.ref b2)])) := r141.trans st142
    have F142_mo_count := F139_mo_count.keep Kc142 nin0
    have F142_mo_mean := F139_mo_mean.keep Kc142 nin0
    have F142_mo_squares := F139_mo_squares.keep Kc142 nin0
    have F142_b1_isPresent := Fpb1.keep Kc142 nin0
    have F142_b1_value := Fvb1.keep Kc142 nin0
    have E142_mo := E139_mo.keep Kc142
    have E142_b1 := Ebb1.keep Kc142
    have Z142 : n0 ≤ T142.heap.size := Nat.le_trans Z139 Kc142.1
    have O142 := O139.keep Kc142 (all0)
    have r144 : Steps p.tables e below S0 (T142.setTop (mkF m 171 #[.val (.int p1), .val (.int p2), .val (.int p3), .val (.int aa), .val (.int bb), .val (.int sel), .val (.long dl), .second, .val (.double dd), .second, .val (.ref mo), .val (.ref b1), .val (.ref b2)] [(.ref b1)])) := by
      refine r143.trans ?_
      show Steps p.tables e below (T142.setTop (mkF m 102 #[.val (.int p1), .val (.int p2), .val (.int p3), .val (.int aa), .val (.int bb), .val (.int sel), .val (.long dl), .second, .val (.double dd), .second, .val (.ref mo), .val (.ref b1), .unset] [(.ref b2)])) _
      refine XS.astore X142.here hx rfl (hb hby at_102) rfl rfl (l' := #[.val (.int p1), .val (.int p2), .val (.int p3), .val (.int aa), .val (.int bb), .val (.int sel), .val (.long dl), .second, .val (.double dd), .second, .val (.ref mo), .val (.ref b1), .val (.ref b2)]) rfl ?_
      show Steps p.tables e below (T142.setTop (mkF m 104 #[.val (.int p1), .val (.int p2), .val (.int p3), .val (.int aa), .val (.int bb), .val (.int sel), .val (.long dl), .second, .val (.double dd), .second, .val (.ref mo), .val (.ref b1), .val (.ref b2)] [])) _
      refine XS.iload X142.here hx rfl (hb hby at_104) rfl ?_
      show Steps p.tables e below (T142.setTop (mkF m 106 #[.val (.int p1), .val (.int p2), .val (.int p3), .val (.int aa), .val (.int bb), .val (.int sel), .val (.long dl), .second, .val (.double dd), .second, .val (.ref mo), .val (.ref b1), .val (.ref b2)] [(.int sel)])) _
      refine XS.ifYes X142.here hx rfl (pc0 := 106) (pc' := 131) rfl (hb hby at_106) rfl ((if0 _ _).trans (feq (by rw [hs] <;> decide)).2) (by decide) (by decide) ?_
      show Steps p.tables e below (T142.setTop (mkF m 131 #[.val (.int p1), .val (.int p2), .val (.int p3), .val (.int aa), .val (.int bb), .val (.int sel), .val (.long dl), .second, .val (.double dd), .second, .val (.ref mo), .val (.ref b1), .val (.ref b2)] [])) _
      refine XS.iload X142.here hx rfl (hb hby at_131) rfl ?_
      show Steps p.tables e below (T142.setTop (mkF m 133 #[.val (.int p1), .val (.int p2), .val (.int p3), .val (.int aa), .val (.int bb), .val (.int sel), .val (.long dl), .second, .val (.double dd), .second, .val (.ref mo), .val (.ref b1), .val (.ref b2)] [(.int sel)])) _
      refine XS.iconst X142.here hx rfl (hb hby at_133) ?_
      show Steps p.tables e below (T142.setTop (mkF m 134 #[.val (.int p1), .val (.int p2), .val (.int p3), .val (.int aa), .val (.int bb), .val (.int sel), .val (.long dl), .second, .val (.double dd), .second, .val (.ref mo), .val (.ref b1), .val (.ref b2)] [(.int (1 : Int32)), (.int sel)])) _
      refine XS.icmpYes X142.here hx rfl (pc0 := 134) (pc' := 169) rfl (hb hby at_134) rfl (feq (by rw [hs] <;> decide)).2 (by decide) (by decide) ?_
      show Steps p.tables e below (T142.setTop (mkF m 169 #[.val (.int p1), .val (.int p2), .val (.int p3), .val (.int aa), .val (.int bb), .val (.int sel), .val (.long dl), .second, .val (.double dd), .second, .val (.ref mo), .val (.ref b1), .val (.ref b2)] [])) _
      refine XS.aload X142.here hx rfl (hb hby at_169) rfl rfl ?_
      exact Steps.refl _
    obtain ⟨cq145, kq145, q145a, q145b, q145c⟩ := isOf hZ rfl E142_b1
    obtain ⟨_, _, ⟨T145, L145, k145, n145⟩, -, X145, ⟨Lc145, hQ145, l145, y145, z145⟩, st145⟩ := X142.virtualBack hx (y := (⟨"java/util/OptionalDouble", "isPresent", "()Z"⟩ : MethodName)) (z := (⟨"java/util/OptionalDouble", "isPresent", "()Z"⟩ : MethodName)) hown (mvT hZ (hw _ (List.mem_of_getElem? (i := 41) rfl))) (mvT hZ (hw _ (List.mem_of_getElem? (i := 42) rfl))) (notFace_of_selects (args := #[]) (mvT hZ (hw _ (List.mem_of_getElem? (i := 44) rfl)))) (mvT hZ (hw _ (List.mem_of_getElem? (i := 44) rfl))) (mvT hZ (hw _ (List.mem_of_getElem? (i := 43) rfl))) (by decide) (backOf (W := 0) (rmP l Z a0 hw [] b1 (1 : Int32) T142.heap n0 Z142 F142_b1_isPresent (by decide)) hZ (hw _ (List.mem_of_getElem? (i := 45) rfl)) (hw _ (List.mem_of_getElem? (i := 28) rfl)) (by decide) (by decide)) q145a q145c (g := (mkF m 171 #[.val (.int p1), .val (.int p2), .val (.int p3), .val (.int aa), .val (.int bb), .val (.int sel), .val (.long dl), .second, .val (.double dd), .second, .val (.ref mo), .val (.ref b1), .val (.ref b2)] [(.ref b1)])) rfl (by rw [hml]; rfl) (Steps.refl _) (argsL := []) (rest := []) (lenOf pd_5 rfl) rfl (by show 2 * 0 + _ ≤ _; exact Nat.le_of_eq rfl) (hb hby at_171) (fun _ _ => ⟨rfl, rfl, (by decide : ((((((0 + 1) + 0) + 0) + 0) + 1) + 1) + 0 ≤ _), (by decide : ((((((0 + 3) + 0) + 0) + 0) + 2) + 2) + 0 ≤ _)⟩)
    dsimp only [Pt.U, Pt.locs, Pt.cells, Pt.slots] at X145 l145 y145 z145 st145 hQ145
    subst l145 y145 z145
    obtain ⟨rfl, Nq145, e145⟩ := hQ145
    have N145 := Fr.app N142 Nq145
    have r146 : Steps p.tables e below S0 (T145.setTop (mkF m 174 #[.val (.int p1), .val (.int p2), .val (.int p3), .val (.int aa), .val (.int bb), .val (.int sel), .val (.long dl), .second, .val (.double dd), .second, .val (.ref mo), .val (.ref b1), .val (.ref b2)] [(.int (1 : Int32))])) := r144.trans st145
    have r147 : Steps p.tables e below S0 (T145.setTop (mkF m 179 #[.val (.int p1), .val (.int p2), .val (.int p3), .val (.int aa), .val (.int bb), .val (.int sel), .val (.long dl), .second, .val (.double dd), .second, .val (.ref mo), .val (.ref b1), .val (.ref b2)] [(.ref b2)])) := by
      refine r146.trans ?_
      show Steps p.tables e below (T145.setTop (mkF m 174 #[.val (.int p1), .val (.int p2), .val (.int p3), .val (.int aa), .val (.int bb), .val (.int sel), .val (.long dl), .second, .val (.double dd), .second, .val (.ref mo), .val (.ref b1), .val (.ref b2)] [(.int (1 : Int32))])) _
      refine XS.ifNo X145.here hx rfl (hb hby at_174) rfl ((if0 _ _).trans (feq (by decide)).1) ?_
      show Steps p.tables e below (T145.setTop (mkF m 177 #[.val (.int p1), .val (.int p2), .val (.int p3), .val (.int aa), .val (.int bb), .val (.int sel), .val (.long dl), .second, .val (.double dd), .second, .val (.ref mo), .val (.ref b1), .val (.ref b2)] [])) _
      refine XS.aload X145.here hx rfl (hb hby at_177) rfl rfl ?_
      exact Steps.refl _
    obtain ⟨cq148, kq148, q148a, q148b, q148c⟩ := isOf hZ e145 Ebb2
    obtain ⟨_, _, ⟨T148, L148, k148, n148⟩, -, X148, ⟨Lc148, hQ148, l148, y148, z148⟩, st148⟩ := X145.virtualBack hx (y := (⟨"java/util/OptionalDouble", "isPresent", "()Z"⟩ : MethodName)) (z := (⟨"java/util/OptionalDouble", "isPresent", "()Z"⟩ : MethodName)) hown (mvT hZ (hw _ (List.mem_of_getElem? (i := 41) rfl))) (mvT hZ (hw _ (List.mem_of_getElem? (i := 42) rfl))) (notFace_of_selects (args := #[]) (mvT hZ (hw _ (List.mem_of_getElem? (i := 44) rfl)))) (mvT hZ (hw _ (List.mem_of_getElem? (i := 44) rfl))) (mvT hZ (hw _ (List.mem_of_getElem? (i := 43) rfl))) (by decide) (backOf (W := 0) (rmP l Z a0 hw [] b2 (1 : Int32) T142.heap n0 Z142 Fpb2 (by decide)) hZ (hw _ (List.mem_of_getElem? (i := 45) rfl)) (hw _ (List.mem_of_getElem? (i := 28) rfl)) (by decide) (by decide)) q148a q148c (g := (mkF m 179 #[.val (.int p1), .val (.int p2), .val (.int p3), .val (.int aa), .val (.int bb), .val (.int sel), .val (.long dl), .second, .val (.double dd), .second, .val (.ref mo), .val (.ref b1), .val (.ref b2)] [(.ref b2)])) rfl (by rw [hml]; rfl) (Steps.refl _) (argsL := []) (rest := []) (lenOf pd_5 rfl) rfl (by show 2 * 0 + _ ≤ _; exact Nat.le_of_eq rfl) (hb hby at_179) (fun _ _ => ⟨rfl, e145, (by decide : (((((((0 + 1) + 0) + 0) + 0) + 1) + 1) + 0) + 0 ≤ _), (by decide : (((((((0 + 3) + 0) + 0) + 0) + 2) + 2) + 0) + 0 ≤ _)⟩)
    dsimp only [Pt.U, Pt.locs, Pt.cells, Pt.slots] at X148 l148 y148 z148 st148 hQ148
    subst l148 y148 z148
    obtain ⟨rfl, Nq148, e148⟩ := hQ148
    have N148 := Fr.app N145 Nq148
    have r149 : Steps p.tables e below S0 (T148.setTop (mkF m 182 #[.val (.int p1), .val (.int p2), .val (.int p3), .val (.int aa), .val (.int bb), .val (.int sel), .val (.long dl), .second, .val (.double dd), .second, .val (.ref mo), .val (.ref b1), .val (.ref b2)] [(.int (1 : Int32))])) := r147.trans st148
    have r150 : Steps p.tables e below S0 (T148.setTop (mkF m 195 #[.val (.int p1), .val (.int p2), .val (.int p3), .val (.int aa), .val (.int bb), .val (.int sel), .val (.long dl), .second, .val (.double dd), .second, .val (.ref mo), .val (.ref b1), .val (.ref b2)] [(.ref b1)])) := by
      refine r149.trans ?_
      show Steps p.tables e below (T148.setTop (mkF m 182 #[.val (.int p1), .val (.int p2), .val (.int p3), .val (.int aa), .val (.int bb), .val (.int sel), .val (.long dl), .second, .val (.double dd), .second, .val (.ref mo), .val (.ref b1), .val (.ref b2)] [(.int (1 : Int32))])) _
      refine XS.ifYes X148.here hx rfl (pc0 := 182) (pc' := 187) rfl (hb hby at_182) rfl ((if0 _ _).trans (feq (by decide)).2) (by decide) (by decide) ?_
      show Steps p.tables e below (T148.setTop (mkF m 187 #[.val (.int p1), .val (.int p2), .val (.int p3), .val (.int aa), .val (.int bb), .val (.int sel), .val (.long dl), .second, .val (.double dd), .second, .val (.ref mo), .val (.ref b1), .val (.ref b2)] [])) _
      refine XS.iload X148.here hx rfl (hb hby at_187) rfl ?_
      show Steps p.tables e below (T148.setTop (mkF m 189 #[.val (.int p1), .val (.int p2), .val (.int p3), .val (.int aa), .val (.int bb), .val (.int sel), .val (.long dl), .second, .val (.double dd), .second, .val (.ref mo), .val (.ref b1), .val (.ref b2)] [(.int sel)])) _
      refine XS.iconst X148.here hx rfl (hb hby at_189) ?_
      show Steps p.tables e below (T148.setTop (mkF m 190 #[.val (.int p1), .val (.int p2), .val (.int p3), .val (.int aa), .val (.int bb), .val (.int sel), .val (.long dl), .second, .val (.double dd), .second, .val (.ref mo), .val (.ref b1), .val (.ref b2)] [(.int (2 : Int32)), (.int sel)])) _
      refine XS.icmpNo X148.here hx rfl (hb hby at_190) rfl (teq hs).2 ?_
      show Steps p.tables e below (T148.setTop (mkF m 193 #[.val (.int p1), .val (.int p2), .val (.int p3), .val (.int aa), .val (.int bb), .val (.int sel), .val (.long dl), .second, .val (.double dd), .second, .val (.ref mo), .val (.ref b1), .val (.ref b2)] [])) _
      refine XS.aload X148.here hx rfl (hb hby at_193) rfl rfl ?_
      exact Steps.refl _
    obtain ⟨cq151, kq151, q151a, q151b, q151c⟩ := isOf hZ e148 E142_b1
    obtain ⟨_, _, ⟨T151, L151, k151, n151⟩, -, X151, ⟨Lc151, hQ151, l151, y151, z151⟩, st151⟩ := X148.virtualBack hx (y := (⟨"java/util/OptionalDouble", "getAsDouble", "()D"⟩ : MethodName)) (z := (⟨"java/util/OptionalDouble", "getAsDouble", "()D"⟩ : MethodName)) hown (mvT hZ (hw _ (List.mem_of_getElem? (i := 46) rfl))) (mvT hZ (hw _ (List.mem_of_getElem? (i := 47) rfl))) (notFace_of_selects (args := #[]) (mvT hZ (hw _ (List.mem_of_getElem? (i := 49) rfl)))) (mvT hZ (hw _ (List.mem_of_getElem? (i := 49) rfl))) (mvT hZ (hw _ (List.mem_of_getElem? (i := 48) rfl))) (by decide) (backOf (W := 0) (rmG l Z a0 hw [] b1 v1 T142.heap n0 Z142 F142_b1_isPresent F142_b1_value) hZ (hw _ (List.mem_of_getElem? (i := 50) rfl)) (hw _ (List.mem_of_getElem? (i := 28) rfl)) (by decide) (by decide)) q151a q151c (g := (mkF m 195 #[.val (.int p1), .val (.int p2), .val (.int p3), .val (.int aa), .val (.int bb), .val (.int sel), .val (.long dl), .second, .val (.double dd), .second, .val (.ref mo), .val (.ref b1), .val (.ref b2)] [(.ref b1)])) rfl (by rw [hml]; rfl) (Steps.refl _) (argsL := []) (rest := []) (lenOf pd_6 rfl) rfl (by show 2 * 0 + _ ≤ _; exact Nat.le_of_eq rfl) (hb hby at_195) (fun _ _ => ⟨rfl, e148, (by decide : ((((((((0 + 1) + 0) + 0) + 0) + 1) + 1) + 0) + 0) + 0 ≤ _), (by decide : ((((((((0 + 3) + 0) + 0) + 0) + 2) + 2) + 0) + 0) + 0 ≤ _)⟩)
    dsimp only [Pt.U, Pt.locs, Pt.cells, Pt.slots] at X151 l151 y151 z151 st151 hQ151
    subst l151 y151 z151
    obtain ⟨rfl, Nq151, e151⟩ := hQ151
    have N151 := Fr.app N148 Nq151
    have r152 : Steps p.tables e below S0 (T151.setTop (mkF m 198 #[.val (.int p1), .val (.int p2), .val (.int p3), .val (.int aa), .val (.int bb), .val (.int sel), .val (.long dl), .second, .val (.double dd), .second, .val (.ref mo), .val (.ref b1), .val (.ref b2)] [(.double v1)])) := r150.trans st151
    obtain ⟨w1, hw1⟩ : ∃ z, FP.dmul v1 (4616189618054758400 : UInt64) = z := ⟨_, rfl⟩
    have yw1 : Dy ((bb.toInt - aa.toInt) * (bb.toInt - aa.toInt)) 0 w1 := hw1 ▸ (yv1.mulTo y4 (t := 2) (by rfl) rfl (by omega) (by decide))
    have r153 : Steps p.tables e below S0 (T151.setTop (mkF m 210 #[.val (.int p1), .val (.int p2), .val (.int p3), .val (.int aa), .val (.int bb), .val (.int sel), .val (.long dl), .second, .val (.double dd), .second, .val (.ref mo), .val (.ref b1), .val (.ref b2)] [(.ref b2)])) := by
      refine r152.trans ?_
      show Steps p.tables e below (T151.setTop (mkF m 198 #[.val (.int p1), .val (.int p2), .val (.int p3), .val (.int aa), .val (.int bb), .val (.int sel), .val (.long dl), .second, .val (.double dd), .second, .val (.ref mo), .val (.ref b1), .val (.ref b2)] [(.double v1)])) _
      refine X151.ldc2DoubleC hx hown (mvT hZ (hw _ (List.mem_of_getElem? (i := 51) rfl))) (g := (mkF m 198 #[.val (.int p1), .val (.int p2), .val (.int p3), .val (.int aa), .val (.int bb), .val (.int sel), .val (.long dl), .second, .val (.double dd), .second, .val (.ref mo), .val (.ref b1), .val (.ref b2)] [(.double v1)])) rfl (hb hby at_198) _ ?_
      show Steps p.tables e below (T151.setTop (mkF m 201 #[.val (.int p1), .val (.int p2), .val (.int p3), .val (.int aa), .val (.int bb), .val (.int sel), .val (.long dl), .second, .val (.double dd), .second, .val (.ref mo), .val (.ref b1), .val (.ref b2)] [(.double (4616189618054758400 : UInt64)), (.double v1)])) _
      refine XS.dmulS X151.here hx rfl (hb hby at_201) rfl (by rw [hw1]; exact yw1.noNaN) hw1 ?_
      show Steps p.tables e below (T151.setTop (mkF m 202 #[.val (.int p1), .val (.int p2), .val (.int p3), .val (.int aa), .val (.int bb), .val (.int sel), .val (.long dl), .second, .val (.double dd), .second, .val (.ref mo), .val (.ref b1), .val (.ref b2)] [(.double w1)])) _
      refine XS.dload X151.here hx rfl (hb hby at_202) rfl ?_
      show Steps p.tables e below (T151.setTop (mkF m 204 #[.val (.int p1), .val (.int p2), .val (.int p3), .val (.int aa), .val (.int bb), .val (.int sel), .val (.long dl), .second, .val (.double dd), .second, .val (.ref mo), .val (.ref b1), .val (.ref b2)] [(.double dd), (.double w1)])) _
      refine XS.dcmpS X151.here hx rfl (hb hby at_204) rfl (show cmpValue (FP.dcmp w1 dd) .l = (0 : Int32) from (by rw [yw1.cmpV ydd]; simp)) ?_
      show Steps p.tables e below (T151.setTop (mkF m 205 #[.val (.int p1), .val (.int p2), .val (.int p3), .val (.int aa), .val (.int bb), .val (.int sel), .val (.long dl), .second, .val (.double dd), .second, .val (.ref mo), .val (.ref b1), .val (.ref b2)] [(.int (0 : Int32))])) _
      refine XS.ifNo X151.here hx rfl (hb hby at_205) rfl ((if0 _ _).trans (teq rfl).2) ?_
      show Steps p.tables e below (T151.setTop (mkF m 208 #[.val (.int p1), .val (.int p2), .val (.int p3), .val (.int aa), .val (.int bb), .val (.int sel), .val (.long dl), .second, .val (.double dd), .second, .val (.ref mo), .val (.ref b1), .val (.ref b2)] [])) _
      refine XS.aload X151.here hx rfl (hb hby at_208) rfl rfl ?_
      exact Steps.refl _
    obtain ⟨cq154, kq154, q154a, q154b, q154c⟩ := isOf hZ e151 Ebb2
    obtain ⟨_, _, ⟨T154, L154, k154, n154⟩, -, X154, ⟨Lc154, hQ154, l154, y154, z154⟩, st154⟩ := X151.virtualBack hx (y := (⟨"java/util/OptionalDouble", "getAsDouble", "()D"⟩ : MethodName)) (z := (⟨"java/util/OptionalDouble", "getAsDouble", "()D"⟩ : MethodName)) hown (mvT hZ (hw _ (List.mem_of_getElem? (i := 46) rfl))) (mvT hZ (hw _ (List.mem_of_getElem? (i := 47) rfl))) (notFace_of_selects (args := #[]) (mvT hZ (hw _ (List.mem_of_getElem? (i := 49) rfl)))) (mvT hZ (hw _ (List.mem_of_getElem? (i := 49) rfl))) (mvT hZ (hw _ (List.mem_of_getElem? (i := 48) rfl))) (by decide) (backOf (W := 0) (rmG l Z a0 hw [] b2 v2 T142.heap n0 Z142 Fpb2 Fvb2) hZ (hw _ (List.mem_of_getElem? (i := 50) rfl)) (hw _ (List.mem_of_getElem? (i := 28) rfl)) (by decide) (by decide)) q154a q154c (g := (mkF m 210 #[.val (.int p1), .val (.int p2), .val (.int p3), .val (.int aa), .val (.int bb), .val (.int sel), .val (.long dl), .second, .val (.double dd), .second, .val (.ref mo), .val (.ref b1), .val (.ref b2)] [(.ref b2)])) rfl (by rw [hml]; rfl) (Steps.refl _) (argsL := []) (rest := []) (lenOf pd_6 rfl) rfl (by show 2 * 0 + _ ≤ _; exact Nat.le_of_eq rfl) (hb hby at_210) (fun _ _ => ⟨rfl, e151, (by decide : (((((((((0 + 1) + 0) + 0) + 0) + 1) + 1) + 0) + 0) + 0) + 0 ≤ _), (by decide : (((((((((0 + 3) + 0) + 0) + 0) + 2) + 2) + 0) + 0) + 0) + 0 ≤ _)⟩)
    dsimp only [Pt.U, Pt.locs, Pt.cells, Pt.slots] at X154 l154 y154 z154 st154 hQ154
    subst l154 y154 z154
    obtain ⟨rfl, Nq154, e154⟩ := hQ154
    have N154 := Fr.app N151 Nq154
    have r155 : Steps p.tables e below S0 (T154.setTop (mkF m 213 #[.val (.int p1), .val (.int p2), .val (.int p3), .val (.int aa), .val (.int bb), .val (.int sel), .val (.long dl), .second, .val (.double dd), .second, .val (.ref mo), .val (.ref b1), .val (.ref b2)] [(.double v2)])) := r153.trans st154
    obtain ⟨w2, hw2⟩ : ∃ z, FP.dmul v2 (4611686018427387904 : UInt64) = z := ⟨_, rfl⟩
    have yw2 : Dy ((bb.toInt - aa.toInt) * (bb.toInt - aa.toInt)) 0 w2 := hw2 ▸ (yv2.mulTo y2 (t := 1) (by rfl) rfl (by omega) (by decide))
    have r156 : Steps p.tables e below S0 (T154.setTop (mkF m 228 #[.val (.int p1), .val (.int p2), .val (.int p3), .val (.int aa), .val (.int bb), .val (.int sel), .val (.long dl), .second, .val (.double dd), .second, .val (.ref mo), .val (.ref b1), .val (.ref b2)] [(.int (1 : Int32))])) := by
      refine r155.trans ?_
      show Steps p.tables e below (T154.setTop (mkF m 213 #[.val (.int p1), .val (.int p2), .val (.int p3), .val (.int aa), .val (.int bb), .val (.int sel), .val (.long dl), .second, .val (.double dd), .second, .val (.ref mo), .val (.ref b1), .val (.ref b2)] [(.double v2)])) _
      refine X154.ldc2DoubleC hx hown (mvT hZ (hw _ (List.mem_of_getElem? (i := 52) rfl))) (g := (mkF m 213 #[.val (.int p1), .val (.int p2), .val (.int p3), .val (.int aa), .val (.int bb), .val (.int sel), .val (.long dl), .second, .val (.double dd), .second, .val (.ref mo), .val (.ref b1), .val (.ref b2)] [(.double v2)])) rfl (hb hby at_213) _ ?_
      show Steps p.tables e below (T154.setTop (mkF m 216 #[.val (.int p1), .val (.int p2), .val (.int p3), .val (.int aa), .val (.int bb), .val (.int sel), .val (.long dl), .second, .val (.double dd), .second, .val (.ref mo), .val (.ref b1), .val (.ref b2)] [(.double (4611686018427387904 : UInt64)), (.double v2)])) _
      refine XS.dmulS X154.here hx rfl (hb hby at_216) rfl (by rw [hw2]; exact yw2.noNaN) hw2 ?_
      show Steps p.tables e below (T154.setTop (mkF m 217 #[.val (.int p1), .val (.int p2), .val (.int p3), .val (.int aa), .val (.int bb), .val (.int sel), .val (.long dl), .second, .val (.double dd), .second, .val (.ref mo), .val (.ref b1), .val (.ref b2)] [(.double w2)])) _
      refine XS.dload X154.here hx rfl (hb hby at_217) rfl ?_
      show Steps p.tables e below (T154.setTop (mkF m 219 #[.val (.int p1), .val (.int p2), .val (.int p3), .val (.int aa), .val (.int bb), .val (.int sel), .val (.long dl), .second, .val (.double dd), .second, .val (.ref mo), .val (.ref b1), .val (.ref b2)] [(.double dd), (.double w2)])) _
      refine XS.dcmpS X154.here hx rfl (hb hby at_219) rfl (show cmpValue (FP.dcmp w2 dd) .l = (0 : Int32) from (by rw [yw2.cmpV ydd]; simp)) ?_
      show Steps p.tables e below (T154.setTop (mkF m 220 #[.val (.int p1), .val (.int p2), .val (.int p3), .val (.int aa), .val (.int bb), .val (.int sel), .val (.long dl), .second, .val (.double dd), .second, .val (.ref mo), .val (.ref b1), .val (.ref b2)] [(.int (0 : Int32))])) _
      refine XS.ifNo X154.here hx rfl (hb hby at_220) rfl ((if0 _ _).trans (teq rfl).2) ?_
      show Steps p.tables e below (T154.setTop (mkF m 223 #[.val (.int p1), .val (.int p2), .val (.int p3), .val (.int aa), .val (.int bb), .val (.int sel), .val (.long dl), .second, .val (.double dd), .second, .val (.ref mo), .val (.ref b1), .val (.ref b2)] [])) _
      refine XS.iconst X154.here hx rfl (hb hby at_223) ?_
      show Steps p.tables e below (T154.setTop (mkF m 224 #[.val (.int p1), .val (.int p2), .val (.int p3), .val (.int aa), .val (.int bb), .val (.int sel), .val (.long dl), .second, .val (.double dd), .second, .val (.ref mo), .val (.ref b1), .val (.ref b2)] [(.int (1 : Int32))])) _
      refine XS.goto X154.here hx rfl (pc0 := 224) (pc' := 228) rfl (hb hby at_224) (by decide) (by decide) ?_
      exact Steps.refl _
    obtain ⟨fs, hr, hrun, hended, hW, hsame⟩ := X154.leave (v := some (.int (1 : Int32))) (fun h => by rw [Bd.returns] at h; cases h)
    refine ⟨_, _, pre0 _ ?_, hrun, hended, _, _, rfl, ?_, ⟨_, rfl⟩, hW, hsame.mono (by decide) (by decide)⟩
    · rw [← hS0]
      refine r156.trans ?_
      show Steps p.tables e below (T154.setTop (mkF m 228 #[.val (.int p1), .val (.int p2), .val (.int p3), .val (.int aa), .val (.int bb), .val (.int sel), .val (.long dl), .second, .val (.double dd), .second, .val (.ref mo), .val (.ref b1), .val (.ref b2)] [(.int (1 : Int32))])) _
      exact retB X154 hx Bd.returns (by first | exact Or.inr rfl | exact Or.inl rfl | (split <;> simp)) (hb hby at_228) hr
    · exact ⟨rfl, N154⟩
  · skip
    have hcn1 : ((0 : Int64) + (1 : Int64)).toInt = 1 := by decide
    obtain ⟨m1, s1, hA1, ym1, ys1⟩ := st1 ya (by omega) hcn1
    have r157 : Steps p.tables e below S0 (T97.setTop (mkF m 51 #[.val (.int p1), .val (.int p2), .val (.int p3), .val (.int aa), .val (.int bb), .val (.int sel), .val (.long dl), .second, .val (.double dd), .second, .val (.ref mo), .unset, .unset] [(.double (FP.i2d aa)), (.ref mo)])) := by
      refine r99.trans ?_
      show Steps p.tables e below (T97.setTop (mkF m 44 #[.val (.int p1), .val (.int p2), .val (.int p3), .val (.int aa), .val (.int bb), .val (.int sel), .val (.long dl), .second, .val (.double dd), .second, .val (.ref mo), .unset, .unset] [(.int (1 : Int32)), (.int sel)])) _
      refine XS.icmpNo X97.here hx rfl (hb hby at_44) rfl (flt (by rw [hs] <;> decide)).1 ?_
      show Steps p.tables e below (T97.setTop (mkF m 47 #[.val (.int p1), .val (.int p2), .val (.int p3), .val (.int aa), .val (.int bb), .val (.int sel), .val (.long dl), .second, .val (.double dd), .second, .val (.ref mo), .unset, .unset] [])) _
      refine XS.aload X97.here hx rfl (hb hby at_47) rfl rfl ?_
      show Steps p.tables e below (T97.setTop (mkF m 49 #[.val (.int p1), .val (.int p2), .val (.int p3), .val (.int aa), .val (.int bb), .val (.int sel), .val (.long dl), .second, .val (.double dd), .second, .val (.ref mo), .unset, .unset] [(.ref mo)])) _
      refine XS.iloadN X97.here hx rfl (hb hby at_49) rfl ?_
      show Steps p.tables e below (T97.setTop (mkF m 50 #[.val (.int p1), .val (.int p2), .val (.int p3), .val (.int aa), .val (.int bb), .val (.int sel), .val (.long dl), .second, .val (.double dd), .second, .val (.ref mo), .unset, .unset] [(.int aa), (.ref mo)])) _
      refine XS.i2dS X97.here hx rfl (hb hby at_50) rfl rfl ?_
      exact Steps.refl _
    obtain ⟨cq158, kq158, q158a, q158b, q158c⟩ := isOf hZ e97 A94
    obtain ⟨_, _, ⟨T158, L158, k158, n158⟩, -, X158, ⟨Lc158, hQ158, l158, y158, z158⟩, st158⟩ := X97.virtualBack hx (y := (⟨"org/rowfold/aggregate/Moments", "add", "(D)V"⟩ : MethodName)) (z := (⟨"org/rowfold/aggregate/Moments", "add", "(D)V"⟩ : MethodName)) hown (mvT hZ (hw _ (List.mem_of_getElem? (i := 10) rfl))) (mvT hZ (hw _ (List.mem_of_getElem? (i := 11) rfl))) (notFace_of_selects (args := #[]) (mvT hZ (hw _ (List.mem_of_getElem? (i := 13) rfl)))) (mvT hZ (hw _ (List.mem_of_getElem? (i := 13) rfl))) (mvT hZ (hw _ (List.mem_of_getElem? (i := 12) rfl))) (by decide) (backOf (W := 0) (rmA l Z a0 hw [] mo (FP.i2d aa) (0 : Int64) (0 : UInt64) (0 : UInt64) m1 s1 h94 n0 Z94 F_mo_count F_mo_mean F_mo_squares A94 g_mo hA1) hZ (hw _ (List.mem_of_getElem? (i := 14) rfl)) (hw _ (List.mem_of_getElem? (i := 3) rfl)) (by decide) (by decide)) q158a q158c (g := (mkF m 51 #[.val (.int p1), .val (.int p2), .val (.int p3), .val (.int aa), .val (.int bb), .val (.int sel), .val (.long dl), .second, .val (.double dd), .second, .val (.ref mo), .unset, .unset] [(.double (FP.i2d aa)), (.ref mo)])) rfl (by rw [hml]; rfl) (Steps.refl _) (argsL := [(.double (FP.i2d aa))]) (rest := []) (lenOf pd_0 rfl) rfl (by show 2 * 0 + _ ≤ _; exact Nat.le_of_eq rfl) (hb hby at_51) (fun _ _ => ⟨rfl, e97, (by decide : ((0 + 1) + 0) + 0 ≤ _), (by decide : ((0 + 3) + 0) + 0 ≤ _)⟩)
    dsimp only [Pt.U, Pt.locs, Pt.cells, Pt.slots] at X158 l158 y158 z158 st158 hQ158
    subst l158 y158 z158
    obtain ⟨rfl, Nq158, Kc158, Ec158, Fc158, Fm158, Fs158⟩ := hQ158
    have N158 := Fr.app N97 Nq158
    have r159 : Steps p.tables e below S0 (T158.setTop (mkF m 54 #[.val (.int p1), .val (.int p2), .val (.int p3), .val (.int aa), .val (.int bb), .val (.int sel), .val (.long dl), .second, .val (.double dd), .second, .val (.ref mo), .unset, .unset] [])) := r157.trans st158
    have E158_mo := A94.keep Kc158
    have Z158 : n0 ≤ T158.heap.size := Nat.le_trans Z94 Kc158.1
    have O158 := O94.keep Kc158 (allS g_mo (all0))
    have hcn2 : (((0 : Int64) + (1 : Int64)) + (1 : Int64)).toInt = 2 := by decide
    obtain ⟨m2, s2, hA2, ym2, ys2⟩ := st2 yb ym1 ys1 (by omega) (by omega) hcn2
    have r160 : Steps p.tables e below S0 (T158.setTop (mkF m 65 #[.val (.int p1), .val (.int p2), .val (.int p3), .val (.int aa), .val (.int bb), .val (.int sel), .val (.long dl), .second, .val (.double dd), .second, .val (.ref mo), .unset, .unset] [(.double (FP.i2d bb)), (.ref mo)])) := by
      refine r159.trans ?_
      show Steps p.tables e below (T158.setTop (mkF m 54 #[.val (.int p1), .val (.int p2), .val (.int p3), .val (.int aa), .val (.int bb), .val (.int sel), .val (.long dl), .second, .val (.double dd), .second, .val (.ref mo), .unset, .unset] [])) _
      refine XS.iload X158.here hx rfl (hb hby at_54) rfl ?_
      show Steps p.tables e below (T158.setTop (mkF m 56 #[.val (.int p1), .val (.int p2), .val (.int p3), .val (.int aa), .val (.int bb), .val (.int sel), .val (.long dl), .second, .val (.double dd), .second, .val (.ref mo), .unset, .unset] [(.int sel)])) _
      refine XS.iconst X158.here hx rfl (hb hby at_56) ?_
      show Steps p.tables e below (T158.setTop (mkF m 57 #[.val (.int p1), .val (.int p2), .val (.int p3), .val (.int aa), .val (.int bb), .val (.int sel), .val (.long dl), .second, .val (.double dd), .second, .val (.ref mo), .unset, .unset] [(.int (2 : Int32)), (.int sel)])) _
      refine XS.icmpNo X158.here hx rfl (hb hby at_57) rfl (flt (by rw [hs] <;> decide)).1 ?_
      show Steps p.tables e below (T158.setTop (mkF m 60 #[.val (.int p1), .val (.int p2), .val (.int p3), .val (.int aa), .val (.int bb), .val (.int sel), .val (.long dl), .second, .val (.double dd), .second, .val (.ref mo), .unset, .unset] [])) _
      refine XS.aload X158.here hx rfl (hb hby at_60) rfl rfl ?_
      show Steps p.tables e below (T158.setTop (mkF m 62 #[.val (.int p1), .val (.int p2), .val (.int p3), .val (.int aa), .val (.int bb), .val (.int sel), .val (.long dl), .second, .val (.double dd), .second, .val (.ref mo), .unset, .unset] [(.ref mo)])) _
      refine XS.iload X158.here hx rfl (hb hby at_62) rfl ?_
      show Steps p.tables e below (T158.setTop (mkF m 64 #[.val (.int p1), .val (.int p2), .val (.int p3), .val (.int aa), .val (.int bb), .val (.int sel), .val (.long dl), .second, .val (.double dd), .second, .val (.ref mo), .unset, .unset] [(.int bb), (.ref mo)])) _
      refine XS.i2dS X158.here hx rfl (hb hby at_64) rfl rfl ?_
      exact Steps.refl _
    obtain ⟨cq161, kq161, q161a, q161b, q161c⟩ := isOf hZ rfl Ec158
    obtain ⟨_, _, ⟨T161, L161, k161, n161⟩, -, X161, ⟨Lc161, hQ161, l161, y161, z161⟩, st161⟩ := X158.virtualBack hx (y := (⟨"org/rowfold/aggregate/Moments", "add", "(D)V"⟩ : MethodName)) (z := (⟨"org/rowfold/aggregate/Moments", "add", "(D)V"⟩ : MethodName)) hown (mvT hZ (hw _ (List.mem_of_getElem? (i := 10) rfl))) (mvT hZ (hw _ (List.mem_of_getElem? (i := 11) rfl))) (notFace_of_selects (args := #[]) (mvT hZ (hw _ (List.mem_of_getElem? (i := 13) rfl)))) (mvT hZ (hw _ (List.mem_of_getElem? (i := 13) rfl))) (mvT hZ (hw _ (List.mem_of_getElem? (i := 12) rfl))) (by decide) (backOf (W := 0) (rmA l Z a0 hw [] mo (FP.i2d bb) ((0 : Int64) + (1 : Int64)) m1 s1 m2 s2 T158.heap n0 Z158 Fc158 Fm158 Fs158 Ec158 g_mo hA2) hZ (hw _ (List.mem_of_getElem? (i := 14) rfl)) (hw _ (List.mem_of_getElem? (i := 3) rfl)) (by decide) (by decide)) q161a q161c (g := (mkF m 65 #[.val (.int p1), .val (.int p2), .val (.int p3), .val (.int aa), .val (.int bb), .val (.int sel), .val (.long dl), .second, .val (.double dd), .second, .val (.ref mo), .unset, .unset] [(.double (FP.i2d bb)), (.ref mo)])) rfl (by rw [hml]; rfl) (Steps.refl _) (argsL := [(.double (FP.i2d bb))]) (rest := []) (lenOf pd_0 rfl) rfl (by show 2 * 0 + _ ≤ _; exact Nat.le_of_eq rfl) (hb hby at_65) (fun _ _ => ⟨rfl, rfl, (by decide : (((0 + 1) + 0) + 0) + 0 ≤ _), (by decide : (((0 + 3) + 0) + 0) + 0 ≤ _)⟩)
    dsimp only [Pt.U, Pt.locs, Pt.cells, Pt.slots] at X161 l161 y161 z161 st161 hQ161
    subst l161 y161 z161
    obtain ⟨rfl, Nq161, Kc161, Ec161, Fc161, Fm161, Fs161⟩ := hQ161
    have N161 := Fr.app N158 Nq161
    have r162 : Steps p.tables e below S0 (T161.setTop (mkF m 68 #[.val (.int p1), .val (.int p2), .val (.int p3), .val (.int aa), .val (.int bb), .val (.int sel), .val (.long dl), .second, .val (.double dd), .second, .val (.ref mo), .unset, .unset] [])) := r160.trans st161
    have E161_mo := Ec158.keep Kc161
    have Z161 : n0 ≤ T161.heap.size := Nat.le_trans Z158 Kc161.1
    have O161 := O158.keep Kc161 (allS g_mo (all0))
    have hab : (aa + bb).toInt = aa.toInt + bb.toInt := own_ab ba bb_
    have y2 : Dy 2 0 (4611686018427387904 : UInt64) := own_two
    obtain ⟨u3, hu3⟩ : ∃ z, FP.ddiv (FP.i2d (aa + bb)) (4611686018427387904 : UInt64) = z := ⟨_, rfl⟩
    have yu3 : Dy (aa.toInt + bb.toInt) 1 u3 := hu3 ▸ ((((Dy.i2d (aa + bb)).scale 1).cast (by rfl) rfl : Dy ((aa + bb).toInt * 2) 1 _).div y2 (by decide) (by rw [hab]) (by omega) (by decide))
    have hcn3 : ((((0 : Int64) + (1 : Int64)) + (1 : Int64)) + (1 : Int64)).toInt = 3 := by decide
    obtain ⟨m3, s3, hA3, ys3⟩ := st3 yu3 ym2 ys2 (by omega) hq hcn3
    have r163 : Steps p.tables e below S0 (T161.setTop (mkF m 85 #[.val (.int p1), .val (.int p2), .val (.int p3), .val (.int aa), .val (.int bb), .val (.int sel), .val (.long dl), .second, .val (.double dd), .second, .val (.ref mo), .unset, .unset] [(.double u3), (.ref mo)])) := by
      refine r162.trans ?_
      show Steps p.tables e below (T161.setTop (mkF m 68 #[.val (.int p1), .val (.int p2), .val (.int p3), .val (.int aa), .val (.int bb), .val (.int sel), .val (.long dl), .second, .val (.double dd), .second, .val (.ref mo), .unset, .unset] [])) _
      refine XS.iload X161.here hx rfl (hb hby at_68) rfl ?_
      show Steps p.tables e below (T161.setTop (mkF m 70 #[.val (.int p1), .val (.int p2), .val (.int p3), .val (.int aa), .val (.int bb), .val (.int sel), .val (.long dl), .second, .val (.double dd), .second, .val (.ref mo), .unset, .unset] [(.int sel)])) _
      refine XS.iconst X161.here hx rfl (hb hby at_70) ?_
      show Steps p.tables e below (T161.setTop (mkF m 71 #[.val (.int p1), .val (.int p2), .val (.int p3), .val (.int aa), .val (.int bb), .val (.int sel), .val (.long dl), .second, .val (.double dd), .second, .val (.ref mo), .unset, .unset] [(.int (3 : Int32)), (.int sel)])) _
      refine XS.icmpNo X161.here hx rfl (hb hby at_71) rfl (flt (by rw [hs] <;> decide)).1 ?_
      show Steps p.tables e below (T161.setTop (mkF m 74 #[.val (.int p1), .val (.int p2), .val (.int p3), .val (.int aa), .val (.int bb), .val (.int sel), .val (.long dl), .second, .val (.double dd), .second, .val (.ref mo), .unset, .unset] [])) _
      refine XS.aload X161.here hx rfl (hb hby at_74) rfl rfl ?_
      show Steps p.tables e below (T161.setTop (mkF m 76 #[.val (.int p1), .val (.int p2), .val (.int p3), .val (.int aa), .val (.int bb), .val (.int sel), .val (.long dl), .second, .val (.double dd), .second, .val (.ref mo), .unset, .unset] [(.ref mo)])) _
      refine XS.iloadN X161.here hx rfl (hb hby at_76) rfl ?_
      show Steps p.tables e below (T161.setTop (mkF m 77 #[.val (.int p1), .val (.int p2), .val (.int p3), .val (.int aa), .val (.int bb), .val (.int sel), .val (.long dl), .second, .val (.double dd), .second, .val (.ref mo), .unset, .unset] [(.int aa), (.ref mo)])) _
      refine XS.iload X161.here hx rfl (hb hby at_77) rfl ?_
      show Steps p.tables e below (T161.setTop (mkF m 79 #[.val (.int p1), .val (.int p2), .val (.int p3), .val (.int aa), .val (.int bb), .val (.int sel), .val (.long dl), .second, .val (.double dd), .second, .val (.ref mo), .unset, .unset] [(.int bb), (.int aa), (.ref mo)])) _
      refine XS.iadd X161.here hx rfl (hb hby at_79) rfl ?_
      show Steps p.tables e below (T161.setTop (mkF m 80 #[.val (.int p1), .val (.int p2), .val (.int p3), .val (.int aa), .val (.int bb), .val (.int sel), .val (.long dl), .second, .val (.double dd), .second, .val (.ref mo), .unset, .unset] [(.int (aa + bb)), (.ref mo)])) _
      refine XS.i2dS X161.here hx rfl (hb hby at_80) rfl rfl ?_
      show Steps p.tables e below (T161.setTop (mkF m 81 #[.val (.int p1), .val (.int p2), .val (.int p3), .val (.int aa), .val (.int bb), .val (.int sel), .val (.long dl), .second, .val (.double dd), .second, .val (.ref mo), .unset, .unset] [(.double (FP.i2d (aa + bb))), (.ref mo)])) _
      refine X161.ldc2DoubleC hx hown (mvT hZ (hw _ (List.mem_of_getElem? (i := 52) rfl))) (g := (mkF m 81 #[.val (.int p1), .val (.int p2), .val (.int p3), .val (.int aa), .val (.int bb), .val (.int sel), .val (.long dl), .second, .val (.double dd), .second, .val (.ref mo), .unset, .unset] [(.double (FP.i2d (aa + bb))), (.ref mo)])) rfl (hb hby at_81) _ ?_
      show Steps p.tables e below (T161.setTop (mkF m 84 #[.val (.int p1), .val (.int p2), .val (.int p3), .val (.int aa), .val (.int bb), .val (.int sel), .val (.long dl), .second, .val (.double dd), .second, .val (.ref mo), .unset, .unset] [(.double (4611686018427387904 : UInt64)), (.double (FP.i2d (aa + bb))), (.ref mo)])) _
      refine XS.ddivS X161.here hx rfl (hb hby at_84) rfl (by rw [hu3]; exact yu3.noNaN) hu3 ?_
      exact Steps.refl _
    obtain ⟨cq164, kq164, q164a, q164b, q164c⟩ := isOf hZ rfl Ec161
    obtain ⟨_, _, ⟨T164, L164, k164, n164⟩, -, X164, ⟨Lc164, hQ164, l164, y164, z164⟩, st164⟩ := X161.virtualBack hx (y := (⟨"org/rowfold/aggregate/Moments", "add", "(D)V"⟩ : MethodName)) (z := (⟨"org/rowfold/aggregate/Moments", "add", "(D)V"⟩ : MethodName)) hown (mvT hZ (hw _ (List.mem_of_getElem? (i := 10) rfl))) (mvT hZ (hw _ (List.mem_of_getElem? (i := 11) rfl))) (notFace_of_selects (args := #[]) (mvT hZ (hw _ (List.mem_of_getElem? (i := 13) rfl)))) (mvT hZ (hw _ (List.mem_of_getElem? (i := 13) rfl))) (mvT hZ (hw _ (List.mem_of_getElem? (i := 12) rfl))) (by decide) (backOf (W := 0) (rmA l Z a0 hw [] mo u3 (((0 : Int64) + (1 : Int64)) + (1 : Int64)) m2 s2 m3 s3 T161.heap n0 Z161 Fc161 Fm161 Fs161 Ec161 g_mo hA3) hZ (hw _ (List.mem_of_getElem? (i := 14) rfl)) (hw _ (List.mem_of_getElem? (i := 3) rfl)) (by decide) (by decide)) q164a q164c (g := (mkF m 85 #[.val (.int p1), .val (.int p2), .val (.int p3), .val (.int aa), .val (.int bb), .val (.int sel), .val (.long dl), .second, .val (.double dd), .second, .val (.ref mo), .unset, .unset] [(.double u3), (.ref mo)])) rfl (by rw [hml]; rfl) (Steps.refl _) (argsL := [(.double u3)]) (rest := []) (lenOf pd_0 rfl) rfl (by show 2 * 0 + _ ≤ _; exact Nat.le_of_eq rfl) (hb hby at_85) (fun _ _ => ⟨rfl, rfl, (by decide : ((((0 + 1) + 0) + 0) + 0) + 0 ≤ _), (by decide : ((((0 + 3) + 0) + 0) + 0) + 0 ≤ _)⟩)
    dsimp only [Pt.U, Pt.locs, Pt.cells, Pt.slots] at X164 l164 y164 z164 st164 hQ164
    subst l164 y164 z164
    obtain ⟨rfl, Nq164, Kc164, Ec164, Fc164, Fm164, Fs164⟩ := hQ164
    have N164 := Fr.app N161 Nq164
    have r165 : Steps p.tables e below S0 (T164.setTop (mkF m 88 #[.val (.int p1), .val (.int p2), .val (.int p3), .val (.int aa), .val (.int bb), .val (.int sel), .val (.long dl), .second, .val (.double dd), .second, .val (.ref mo), .unset, .unset] [])) := r163.trans st164
    have E164_mo := Ec161.keep Kc164
    have Z164 : n0 ≤ T164.heap.size := Nat.le_trans Z161 Kc164.1
    have O164 := O161.keep Kc164 (allS g_mo (all0))
    have y4 : Dy 4 0 (4616189618054758400 : UInt64) := own_four
    have y3 : Dy 3 0 (4613937818241073152 : UInt64) := own_three
    have ys3' : Dy (((bb.toInt - aa.toInt) * (bb.toInt - aa.toInt)) * 2) 2 s3 := (ys3.scale 1).cast (by rfl) rfl
    obtain ⟨v1, hv1⟩ : ∃ z, FP.ddiv s3 (FP.l2d ((((0 : Int64) + (1 : Int64)) + (1 : Int64)) + (1 : Int64))) = z := ⟨_, rfl⟩
    have nv1 : NoNaN64 v1 := hv1 ▸ div_noNaN ys3 (dy_l (n := 3) (by decide) (by decide)) (by decide)
    have r166 : Steps p.tables e below S0 (T164.setTop (mkF m 91 #[.val (.int p1), .val (.int p2), .val (.int p3), .val (.int aa), .val (.int bb), .val (.int sel), .val (.long dl), .second, .val (.double dd), .second, .val (.ref mo), .unset, .unset] [(.int (0 : Int32)), (.ref mo)])) := by
      refine r165.trans ?_
      show Steps p.tables e below (T164.setTop (mkF m 88 #[.val (.int p1), .val (.int p2), .val (.int p3), .val (.int aa), .val (.int bb), .val (.int sel), .val (.long dl), .second, .val (.double dd), .second, .val (.ref mo), .unset, .unset] [])) _
      refine XS.aload X164.here hx rfl (hb hby at_88) rfl rfl ?_
      show Steps p.tables e below (T164.setTop (mkF m 90 #[.val (.int p1), .val (.int p2), .val (.int p3), .val (.int aa), .val (.int bb), .val (.int sel), .val (.long dl), .second, .val (.double dd), .second, .val (.ref mo), .unset, .unset] [(.ref mo)])) _
      refine XS.iconst X164.here hx rfl (hb hby at_90) ?_
      exact Steps.refl _
    obtain ⟨cq167, kq167, q167a, q167b, q167c⟩ := isOf hZ rfl Ec164
    obtain ⟨_, _, ⟨T167, L167, k167, n167⟩, -, X167, ⟨Lc167, hQ167, l167, y167, z167⟩, st167⟩ := X164.virtualBack hx (y := (⟨"org/rowfold/aggregate/Moments", "variance", "(Z)Ljava/util/OptionalDouble;"⟩ : MethodName)) (z := (⟨"org/rowfold/aggregate/Moments", "variance", "(Z)Ljava/util/OptionalDouble;"⟩ : MethodName)) hown (mvT hZ (hw _ (List.mem_of_getElem? (i := 21) rfl))) (mvT hZ (hw _ (List.mem_of_getElem? (i := 22) rfl))) (notFace_of_selects (args := #[]) (mvT hZ (hw _ (List.mem_of_getElem? (i := 24) rfl)))) (mvT hZ (hw _ (List.mem_of_getElem? (i := 24) rfl))) (mvT hZ (hw _ (List.mem_of_getElem? (i := 23) rfl))) (by decide) (backOf (W := 0) (rmV0o l Z a0 hw [] mo (0 : Int32) ((((0 : Int64) + (1 : Int64)) + (1 : Int64)) + (1 : Int64)) s3 v1 T164.heap n0 Z164 rfl Fc164 Fs164 (by decide) hv1 nv1) hZ (hw _ (List.mem_of_getElem? (i := 25) rfl)) (hw _ (List.mem_of_getElem? (i := 3) rfl)) (by decide) (by decide)) q167a q167c (g := (mkF m 91 #[.val (.int p1), .val (.int p2), .val (.int p3), .val (.int aa), .val (.int bb), .val (.int sel), .val (.long dl), .second, .val (.double dd), .second, .val (.ref mo), .unset, .unset] [(.int (0 : Int32)), (.ref mo)])) rfl (by rw [hml]; rfl) (Steps.refl _) (argsL := [(.int (0 : Int32))]) (rest := []) (lenOf pd_4 rfl) rfl (by show 2 * 0 + _ ≤ _; exact Nat.le_of_eq rfl) (hb hby at_91) (fun _ _ => ⟨rfl, rfl, (by decide : (((((0 + 1) + 0) + 0) + 0) + 0) + 1 ≤ _), (by decide : (((((0 + 3) + 0) + 0) + 0) + 0) + 2 ≤ _)⟩)
    dsimp only [Pt.U, Pt.locs, Pt.cells, Pt.slots] at X167 l167 y167 z167 st167 hQ167
    subst l167 y167 z167
    obtain ⟨b1, rfl, sbb1, Ebb1, Fpb1, Fvb1, Kc167, Nq167⟩ := hQ167
    have N167 := Fr.app N164 Nq167
    have r168 : Steps p.tables e below S0 (T167.setTop (mkF m 94 #[.val (.int p1), .val (.int p2), .val (.int p3), .val (.int aa), .val (.int bb), .val (.int sel), .val (.long dl), .second, .val (.double dd), .second, .val (.ref mo), .unset, .unset] [(.ref b1)])) := r166.trans st167
    have F167_mo_count := Fc164.keep Kc167 nin0
    have F167_mo_mean := Fm164.keep Kc167 nin0
    have F167_mo_squares := Fs164.keep Kc167 nin0
    have E167_mo := Ec164.keep Kc167
    have Z167 : n0 ≤ T167.heap.size := Nat.le_trans Z164 Kc167.1
    have O167 := O164.keep Kc167 (all0)
    obtain ⟨v2, hv2⟩ : ∃ z, FP.ddiv s3 (FP.l2d (((((0 : Int64) + (1 : Int64)) + (1 : Int64)) + (1 : Int64)) - (1 : Int64))) = z := ⟨_, rfl⟩
    have yv2 : Dy ((bb.toInt - aa.toInt) * (bb.toInt - aa.toInt)) 2 v2 := hv2 ▸ ys3'.div (dy_l (n := 2) (by decide) (by decide)) (by decide) rfl (by omega) (by decide)
    have nv2 := yv2.noNaN
    have r169 : Steps p.tables e below S0 (T167.setTop (mkF m 99 #[.val (.int p1), .val (.int p2), .val (.int p3), .val (.int aa), .val (.int bb), .val (.int sel), .val (.long dl), .second, .val (.double dd), .second, .val (.ref mo), .val (.ref b1), .unset] [(.int (1 : Int32)), (.ref mo)])) := by
      refine r168.trans ?_
      show Steps p.tables e below (T167.setTop (mkF m 94 #[.val (.int p1), .val (.int p2), .val (.int p3), .val (.int aa), .val (.int bb), .val (.int sel), .val (.long dl), .second, .val (.double dd), .second, .val (.ref mo), .unset, .unset] [(.ref b1)])) _
      refine XS.astore X167.here hx rfl (hb hby at_94) rfl rfl (l' := #[.val (.int p1), .val (.int p2), .val (.int p3), .val (.int aa), .val (.int bb), .val (.int sel), .val (.long dl), .second, .val (.double dd), .second, .val (.ref mo), .val (.ref b1), .unset]) rfl ?_
      show Steps p.tables e below (T167.setTop (mkF m 96 #[.val (.int p1), .val (.int p2), .val (.int p3), .val (.int aa), .val (.int bb), .val (.int sel), .val (.long dl), .second, .val (.double dd), .second, .val (.ref mo), .val (.ref b1), .unset] [])) _
      refine XS.aload X167.here hx rfl (hb hby at_96) rfl rfl ?_
      show Steps p.tables e below (T167.setTop (mkF m 98 #[.val (.int p1), .val (.int p2), .val (.int p3), .val (.int aa), .val (.int bb), .val (.int sel), .val (.long dl), .second, .val (.double dd), .second, .val (.ref mo), .val (.ref b1), .unset] [(.ref mo)])) _
      refine XS.iconst X167.here hx rfl (hb hby at_98) ?_
      exact Steps.refl _
    obtain ⟨cq170, kq170, q170a, q170b, q170c⟩ := isOf hZ rfl E167_mo
    obtain ⟨_, _, ⟨T170, L170, k170, n170⟩, -, X170, ⟨Lc170, hQ170, l170, y170, z170⟩, st170⟩ := X167.virtualBack hx (y := (⟨"org/rowfold/aggregate/Moments", "variance", "(Z)Ljava/util/OptionalDouble;"⟩ : MethodName)) (z := (⟨"org/rowfold/aggregate/Moments", "variance", "(Z)Ljava/util/OptionalDouble;"⟩ : MethodName)) hown (mvT hZ (hw _ (List.mem_of_getElem? (i := 21) rfl))) (mvT hZ (hw _ (List.mem_of_getElem? (i := 22) rfl))) (notFace_of_selects (args := #[]) (mvT hZ (hw _ (List.mem_of_getElem? (i := 24) rfl)))) (mvT hZ (hw _ (List.mem_of_getElem? (i := 24) rfl))) (mvT hZ (hw _ (List.mem_of_getElem? (i := 23) rfl))) (by decide) (backOf (W := 0) (rmV1o l Z a0 hw [] mo (1 : Int32) ((((0 : Int64) + (1 : Int64)) + (1 : Int64)) + (1 : Int64)) s3 v2 T167.heap n0 Z167 (by decide) F167_mo_count F167_mo_squares (by decide) hv2 nv2) hZ (hw _ (List.mem_of_getElem? (i := 25) rfl)) (hw _ (List.mem_of_getElem? (i := 3) rfl)) (by decide) (by decide)) q170a q170c (g := (mkF m 99 #[.val (.int p1), .val (.int p2), .val (.int p3), .val (.int aa), .val (.int bb), .val (.int sel), .val (.long dl), .second, .val (.double dd), .second, .val (.ref mo), .val (.ref b1), .unset] [(.int (1 : Int32)), (.ref mo)])) rfl (by rw [hml]; rfl) (Steps.refl _) (argsL := [(.int (1 : Int32))]) (rest := []) (lenOf pd_4 rfl) rfl (by show 2 * 0 + _ ≤ _; exact Nat.le_of_eq rfl) (hb hby at_99) (fun _ _ => ⟨rfl, rfl, (by decide : ((((((0 + 1) + 0) + 0) + 0) + 0) + 1) + 1 ≤ _), (by decide : ((((((0 + 3) + 0) + 0) + 0) + 0) + 2) + 2 ≤ _)⟩)
    dsimp only [Pt.U, Pt.locs, Pt.cells, Pt.slots] at X170 l170 y170 z170 st170 hQ170
    subst l170 y170 z170
    obtain ⟨b2, rfl, sbb2, Ebb2, Fpb2, Fvb2, Kc170, Nq170⟩ := hQ170
    have N170 := Fr.app N167 Nq170
    have r171 : Steps p.tables e below S0 (T170.setTop (mkF m 102 #[.val (.int p1), .val (.int p2), .val (.int p3), .val (.int aa), .val (.int bb), .val (.int sel), .val (.long dl), .second, .val (.double dd), .second, .val (.ref mo), .val (.ref b1), .unset] [(.ref b2)])) := r169.trans st170
    have F170_mo_count := F167_mo_count.keep Kc170 nin0
    have F170_mo_mean := F167_mo_mean.keep Kc170 nin0
    have F170_mo_squares := F167_mo_squares.keep Kc170 nin0
    have F170_b1_isPresent := Fpb1.keep Kc170 nin0
    have F170_b1_value := Fvb1.keep Kc170 nin0
    have E170_mo := E167_mo.keep Kc170
    have E170_b1 := Ebb1.keep Kc170
    have Z170 : n0 ≤ T170.heap.size := Nat.le_trans Z167 Kc170.1
    have O170 := O167.keep Kc170 (all0)
    have r172 : Steps p.tables e below S0 (T170.setTop (mkF m 171 #[.val (.int p1), .val (.int p2), .val (.int p3), .val (.int aa), .val (.int bb), .val (.int sel), .val (.long dl), .second, .val (.double dd), .second, .val (.ref mo), .val (.ref b1), .val (.ref b2)] [(.ref b1)])) := by
      refine r171.trans ?_
      show Steps p.tables e below (T170.setTop (mkF m 102 #[.val (.int p1), .val (.int p2), .val (.int p3), .val (.int aa), .val (.int bb), .val (.int sel), .val (.long dl), .second, .val (.double dd), .second, .val (.ref mo), .val (.ref b1), .unset] [(.ref b2)])) _
      refine XS.astore X170.here hx rfl (hb hby at_102) rfl rfl (l' := #[.val (.int p1), .val (.int p2), .val (.int p3), .val (.int aa), .val (.int bb), .val (.int sel), .val (.long dl), .second, .val (.double dd), .second, .val (.ref mo), .val (.ref b1), .val (.ref b2)]) rfl ?_
      show Steps p.tables e below (T170.setTop (mkF m 104 #[.val (.int p1), .val (.int p2), .val (.int p3), .val (.int aa), .val (.int bb), .val (.int sel), .val (.long dl), .second, .val (.double dd), .second, .val (.ref mo), .val (.ref b1), .val (.ref b2)] [])) _
      refine XS.iload X170.here hx rfl (hb hby at_104) rfl ?_
      show Steps p.tables e below (T170.setTop (mkF m 106 #[.val (.int p1), .val (.int p2), .val (.int p3), .val (.int aa), .val (.int bb), .val (.int sel), .val (.long dl), .second, .val (.double dd), .second, .val (.ref mo), .val (.ref b1), .val (.ref b2)] [(.int sel)])) _
      refine XS.ifYes X170.here hx rfl (pc0 := 106) (pc' := 131) rfl (hb hby at_106) rfl ((if0 _ _).trans (feq (by rw [hs] <;> decide)).2) (by decide) (by decide) ?_
      show Steps p.tables e below (T170.setTop (mkF m 131 #[.val (.int p1), .val (.int p2), .val (.int p3), .val (.int aa), .val (.int bb), .val (.int sel), .val (.long dl), .second, .val (.double dd), .second, .val (.ref mo), .val (.ref b1), .val (.ref b2)] [])) _
      refine XS.iload X170.here hx rfl (hb hby at_131) rfl ?_
      show Steps p.tables e below (T170.setTop (mkF m 133 #[.val (.int p1), .val (.int p2), .val (.int p3), .val (.int aa), .val (.int bb), .val (.int sel), .val (.long dl), .second, .val (.double dd), .second, .val (.ref mo), .val (.ref b1), .val (.ref b2)] [(.int sel)])) _
      refine XS.iconst X170.here hx rfl (hb hby at_133) ?_
      show Steps p.tables e below (T170.setTop (mkF m 134 #[.val (.int p1), .val (.int p2), .val (.int p3), .val (.int aa), .val (.int bb), .val (.int sel), .val (.long dl), .second, .val (.double dd), .second, .val (.ref mo), .val (.ref b1), .val (.ref b2)] [(.int (1 : Int32)), (.int sel)])) _
      refine XS.icmpYes X170.here hx rfl (pc0 := 134) (pc' := 169) rfl (hb hby at_134) rfl (feq (by rw [hs] <;> decide)).2 (by decide) (by decide) ?_
      show Steps p.tables e below (T170.setTop (mkF m 169 #[.val (.int p1), .val (.int p2), .val (.int p3), .val (.int aa), .val (.int bb), .val (.int sel), .val (.long dl), .second, .val (.double dd), .second, .val (.ref mo), .val (.ref b1), .val (.ref b2)] [])) _
      refine XS.aload X170.here hx rfl (hb hby at_169) rfl rfl ?_
      exact Steps.refl _
    obtain ⟨cq173, kq173, q173a, q173b, q173c⟩ := isOf hZ rfl E170_b1
    obtain ⟨_, _, ⟨T173, L173, k173, n173⟩, -, X173, ⟨Lc173, hQ173, l173, y173, z173⟩, st173⟩ := X170.virtualBack hx (y := (⟨"java/util/OptionalDouble", "isPresent", "()Z"⟩ : MethodName)) (z := (⟨"java/util/OptionalDouble", "isPresent", "()Z"⟩ : MethodName)) hown (mvT hZ (hw _ (List.mem_of_getElem? (i := 41) rfl))) (mvT hZ (hw _ (List.mem_of_getElem? (i := 42) rfl))) (notFace_of_selects (args := #[]) (mvT hZ (hw _ (List.mem_of_getElem? (i := 44) rfl)))) (mvT hZ (hw _ (List.mem_of_getElem? (i := 44) rfl))) (mvT hZ (hw _ (List.mem_of_getElem? (i := 43) rfl))) (by decide) (backOf (W := 0) (rmP l Z a0 hw [] b1 (1 : Int32) T170.heap n0 Z170 F170_b1_isPresent (by decide)) hZ (hw _ (List.mem_of_getElem? (i := 45) rfl)) (hw _ (List.mem_of_getElem? (i := 28) rfl)) (by decide) (by decide)) q173a q173c (g := (mkF m 171 #[.val (.int p1), .val (.int p2), .val (.int p3), .val (.int aa), .val (.int bb), .val (.int sel), .val (.long dl), .second, .val (.double dd), .second, .val (.ref mo), .val (.ref b1), .val (.ref b2)] [(.ref b1)])) rfl (by rw [hml]; rfl) (Steps.refl _) (argsL := []) (rest := []) (lenOf pd_5 rfl) rfl (by show 2 * 0 + _ ≤ _; exact Nat.le_of_eq rfl) (hb hby at_171) (fun _ _ => ⟨rfl, rfl, (by decide : (((((((0 + 1) + 0) + 0) + 0) + 0) + 1) + 1) + 0 ≤ _), (by decide : (((((((0 + 3) + 0) + 0) + 0) + 0) + 2) + 2) + 0 ≤ _)⟩)
    dsimp only [Pt.U, Pt.locs, Pt.cells, Pt.slots] at X173 l173 y173 z173 st173 hQ173
    subst l173 y173 z173
    obtain ⟨rfl, Nq173, e173⟩ := hQ173
    have N173 := Fr.app N170 Nq173
    have r174 : Steps p.tables e below S0 (T173.setTop (mkF m 174 #[.val (.int p1), .val (.int p2), .val (.int p3), .val (.int aa), .val (.int bb), .val (.int sel), .val (.long dl), .second, .val (.double dd), .second, .val (.ref mo), .val (.ref b1), .val (.ref b2)] [(.int (1 : Int32))])) := r172.trans st173
    have r175 : Steps p.tables e below S0 (T173.setTop (mkF m 179 #[.val (.int p1), .val (.int p2), .val (.int p3), .val (.int aa), .val (.int bb), .val (.int sel), .val (.long dl), .second, .val (.double dd), .second, .val (.ref mo), .val (.ref b1), .val (.ref b2)] [(.ref b2)])) := by
      refine r174.trans ?_
      show Steps p.tables e below (T173.setTop (mkF m 174 #[.val (.int p1), .val (.int p2), .val (.int p3), .val (.int aa), .val (.int bb), .val (.int sel), .val (.long dl), .second, .val (.double dd), .second, .val (.ref mo), .val (.ref b1), .val (.ref b2)] [(.int (1 : Int32))])) _
      refine XS.ifNo X173.here hx rfl (hb hby at_174) rfl ((if0 _ _).trans (feq (by decide)).1) ?_
      show Steps p.tables e below (T173.setTop (mkF m 177 #[.val (.int p1), .val (.int p2), .val (.int p3), .val (.int aa), .val (.int bb), .val (.int sel), .val (.long dl), .second, .val (.double dd), .second, .val (.ref mo), .val (.ref b1), .val (.ref b2)] [])) _
      refine XS.aload X173.here hx rfl (hb hby at_177) rfl rfl ?_
      exact Steps.refl _
    obtain ⟨cq176, kq176, q176a, q176b, q176c⟩ := isOf hZ e173 Ebb2
    obtain ⟨_, _, ⟨T176, L176, k176, n176⟩, -, X176, ⟨Lc176, hQ176, l176, y176, z176⟩, st176⟩ := X173.virtualBack hx (y := (⟨"java/util/OptionalDouble", "isPresent", "()Z"⟩ : MethodName)) (z := (⟨"java/util/OptionalDouble", "isPresent", "()Z"⟩ : MethodName)) hown (mvT hZ (hw _ (List.mem_of_getElem? (i := 41) rfl))) (mvT hZ (hw _ (List.mem_of_getElem? (i := 42) rfl))) (notFace_of_selects (args := #[]) (mvT hZ (hw _ (List.mem_of_getElem? (i := 44) rfl)))) (mvT hZ (hw _ (List.mem_of_getElem? (i := 44) rfl))) (mvT hZ (hw _ (List.mem_of_getElem? (i := 43) rfl))) (by decide) (backOf (W := 0) (rmP l Z a0 hw [] b2 (1 : Int32) T170.heap n0 Z170 Fpb2 (by decide)) hZ (hw _ (List.mem_of_getElem? (i := 45) rfl)) (hw _ (List.mem_of_getElem? (i := 28) rfl)) (by decide) (by decide)) q176a q176c (g := (mkF m 179 #[.val (.int p1), .val (.int p2), .val (.int p3), .val (.int aa), .val (.int bb), .val (.int sel), .val (.long dl), .second, .val (.double dd), .second, .val (.ref mo), .val (.ref b1), .val (.ref b2)] [(.ref b2)])) rfl (by rw [hml]; rfl) (Steps.refl _) (argsL := []) (rest := []) (lenOf pd_5 rfl) rfl (by show 2 * 0 + _ ≤ _; exact Nat.le_of_eq rfl) (hb hby at_179) (fun _ _ => ⟨rfl, e173, (by decide : ((((((((0 + 1) + 0) + 0) + 0) + 0) + 1) + 1) + 0) + 0 ≤ _), (by decide : ((((((((0 + 3) + 0) + 0) + 0) + 0) + 2) + 2) + 0) + 0 ≤ _)⟩)
    dsimp only [Pt.U, Pt.locs, Pt.cells, Pt.slots] at X176 l176 y176 z176 st176 hQ176
    subst l176 y176 z176
    obtain ⟨rfl, Nq176, e176⟩ := hQ176
    have N176 := Fr.app N173 Nq176
    have r177 : Steps p.tables e below S0 (T176.setTop (mkF m 182 #[.val (.int p1), .val (.int p2), .val (.int p3), .val (.int aa), .val (.int bb), .val (.int sel), .val (.long dl), .second, .val (.double dd), .second, .val (.ref mo), .val (.ref b1), .val (.ref b2)] [(.int (1 : Int32))])) := r175.trans st176
    have r178 : Steps p.tables e below S0 (T176.setTop (mkF m 231 #[.val (.int p1), .val (.int p2), .val (.int p3), .val (.int aa), .val (.int bb), .val (.int sel), .val (.long dl), .second, .val (.double dd), .second, .val (.ref mo), .val (.ref b1), .val (.ref b2)] [(.ref b2)])) := by
      refine r177.trans ?_
      show Steps p.tables e below (T176.setTop (mkF m 182 #[.val (.int p1), .val (.int p2), .val (.int p3), .val (.int aa), .val (.int bb), .val (.int sel), .val (.long dl), .second, .val (.double dd), .second, .val (.ref mo), .val (.ref b1), .val (.ref b2)] [(.int (1 : Int32))])) _
      refine XS.ifYes X176.here hx rfl (pc0 := 182) (pc' := 187) rfl (hb hby at_182) rfl ((if0 _ _).trans (feq (by decide)).2) (by decide) (by decide) ?_
      show Steps p.tables e below (T176.setTop (mkF m 187 #[.val (.int p1), .val (.int p2), .val (.int p3), .val (.int aa), .val (.int bb), .val (.int sel), .val (.long dl), .second, .val (.double dd), .second, .val (.ref mo), .val (.ref b1), .val (.ref b2)] [])) _
      refine XS.iload X176.here hx rfl (hb hby at_187) rfl ?_
      show Steps p.tables e below (T176.setTop (mkF m 189 #[.val (.int p1), .val (.int p2), .val (.int p3), .val (.int aa), .val (.int bb), .val (.int sel), .val (.long dl), .second, .val (.double dd), .second, .val (.ref mo), .val (.ref b1), .val (.ref b2)] [(.int sel)])) _
      refine XS.iconst X176.here hx rfl (hb hby at_189) ?_
      show Steps p.tables e below (T176.setTop (mkF m 190 #[.val (.int p1), .val (.int p2), .val (.int p3), .val (.int aa), .val (.int bb), .val (.int sel), .val (.long dl), .second, .val (.double dd), .second, .val (.ref mo), .val (.ref b1), .val (.ref b2)] [(.int (2 : Int32)), (.int sel)])) _
      refine XS.icmpYes X176.here hx rfl (pc0 := 190) (pc' := 229) rfl (hb hby at_190) rfl (feq (by rw [hs] <;> decide)).2 (by decide) (by decide) ?_
      show Steps p.tables e below (T176.setTop (mkF m 229 #[.val (.int p1), .val (.int p2), .val (.int p3), .val (.int aa), .val (.int bb), .val (.int sel), .val (.long dl), .second, .val (.double dd), .second, .val (.ref mo), .val (.ref b1), .val (.ref b2)] [])) _
      refine XS.aload X176.here hx rfl (hb hby at_229) rfl rfl ?_
      exact Steps.refl _
    obtain ⟨cq179, kq179, q179a, q179b, q179c⟩ := isOf hZ e176 Ebb2
    obtain ⟨_, _, ⟨T179, L179, k179, n179⟩, -, X179, ⟨Lc179, hQ179, l179, y179, z179⟩, st179⟩ := X176.virtualBack hx (y := (⟨"java/util/OptionalDouble", "getAsDouble", "()D"⟩ : MethodName)) (z := (⟨"java/util/OptionalDouble", "getAsDouble", "()D"⟩ : MethodName)) hown (mvT hZ (hw _ (List.mem_of_getElem? (i := 46) rfl))) (mvT hZ (hw _ (List.mem_of_getElem? (i := 47) rfl))) (notFace_of_selects (args := #[]) (mvT hZ (hw _ (List.mem_of_getElem? (i := 49) rfl)))) (mvT hZ (hw _ (List.mem_of_getElem? (i := 49) rfl))) (mvT hZ (hw _ (List.mem_of_getElem? (i := 48) rfl))) (by decide) (backOf (W := 0) (rmG l Z a0 hw [] b2 v2 T170.heap n0 Z170 Fpb2 Fvb2) hZ (hw _ (List.mem_of_getElem? (i := 50) rfl)) (hw _ (List.mem_of_getElem? (i := 28) rfl)) (by decide) (by decide)) q179a q179c (g := (mkF m 231 #[.val (.int p1), .val (.int p2), .val (.int p3), .val (.int aa), .val (.int bb), .val (.int sel), .val (.long dl), .second, .val (.double dd), .second, .val (.ref mo), .val (.ref b1), .val (.ref b2)] [(.ref b2)])) rfl (by rw [hml]; rfl) (Steps.refl _) (argsL := []) (rest := []) (lenOf pd_6 rfl) rfl (by show 2 * 0 + _ ≤ _; exact Nat.le_of_eq rfl) (hb hby at_231) (fun _ _ => ⟨rfl, e176, (by decide : (((((((((0 + 1) + 0) + 0) + 0) + 0) + 1) + 1) + 0) + 0) + 0 ≤ _), (by decide : (((((((((0 + 3) + 0) + 0) + 0) + 0) + 2) + 2) + 0) + 0) + 0 ≤ _)⟩)
    dsimp only [Pt.U, Pt.locs, Pt.cells, Pt.slots] at X179 l179 y179 z179 st179 hQ179
    subst l179 y179 z179
    obtain ⟨rfl, Nq179, e179⟩ := hQ179
    have N179 := Fr.app N176 Nq179
    have r180 : Steps p.tables e below S0 (T179.setTop (mkF m 234 #[.val (.int p1), .val (.int p2), .val (.int p3), .val (.int aa), .val (.int bb), .val (.int sel), .val (.long dl), .second, .val (.double dd), .second, .val (.ref mo), .val (.ref b1), .val (.ref b2)] [(.double v2)])) := r178.trans st179
    obtain ⟨w1, hw1⟩ : ∃ z, FP.dmul v2 (4616189618054758400 : UInt64) = z := ⟨_, rfl⟩
    have yw1 : Dy ((bb.toInt - aa.toInt) * (bb.toInt - aa.toInt)) 0 w1 := hw1 ▸ (yv2.mulTo y4 (t := 2) (by rfl) rfl (by omega) (by decide))
    have r181 : Steps p.tables e below S0 (T179.setTop (mkF m 246 #[.val (.int p1), .val (.int p2), .val (.int p3), .val (.int aa), .val (.int bb), .val (.int sel), .val (.long dl), .second, .val (.double dd), .second, .val (.ref mo), .val (.ref b1), .val (.ref b2)] [(.ref b1)])) := by
      refine r180.trans ?_
      show Steps p.tables e below (T179.setTop (mkF m 234 #[.val (.int p1), .val (.int p2), .val (.int p3), .val (.int aa), .val (.int bb), .val (.int sel), .val (.long dl), .second, .val (.double dd), .second, .val (.ref mo), .val (.ref b1), .val (.ref b2)] [(.double v2)])) _
      refine X179.ldc2DoubleC hx hown (mvT hZ (hw _ (List.mem_of_getElem? (i := 51) rfl))) (g := (mkF m 234 #[.val (.int p1), .val (.int p2), .val (.int p3), .val (.int aa), .val (.int bb), .val (.int sel), .val (.long dl), .second, .val (.double dd), .second, .val (.ref mo), .val (.ref b1), .val (.ref b2)] [(.double v2)])) rfl (hb hby at_234) _ ?_
      show Steps p.tables e below (T179.setTop (mkF m 237 #[.val (.int p1), .val (.int p2), .val (.int p3), .val (.int aa), .val (.int bb), .val (.int sel), .val (.long dl), .second, .val (.double dd), .second, .val (.ref mo), .val (.ref b1), .val (.ref b2)] [(.double (4616189618054758400 : UInt64)), (.double v2)])) _
      refine XS.dmulS X179.here hx rfl (hb hby at_237) rfl (by rw [hw1]; exact yw1.noNaN) hw1 ?_
      show Steps p.tables e below (T179.setTop (mkF m 238 #[.val (.int p1), .val (.int p2), .val (.int p3), .val (.int aa), .val (.int bb), .val (.int sel), .val (.long dl), .second, .val (.double dd), .second, .val (.ref mo), .val (.ref b1), .val (.ref b2)] [(.double w1)])) _
      refine XS.dload X179.here hx rfl (hb hby at_238) rfl ?_
      show Steps p.tables e below (T179.setTop (mkF m 240 #[.val (.int p1), .val (.int p2), .val (.int p3), .val (.int aa), .val (.int bb), .val (.int sel), .val (.long dl), .second, .val (.double dd), .second, .val (.ref mo), .val (.ref b1), .val (.ref b2)] [(.double dd), (.double w1)])) _
      refine XS.dcmpS X179.here hx rfl (hb hby at_240) rfl (show cmpValue (FP.dcmp w1 dd) .l = (0 : Int32) from (by rw [yw1.cmpV ydd]; simp)) ?_
      show Steps p.tables e below (T179.setTop (mkF m 241 #[.val (.int p1), .val (.int p2), .val (.int p3), .val (.int aa), .val (.int bb), .val (.int sel), .val (.long dl), .second, .val (.double dd), .second, .val (.ref mo), .val (.ref b1), .val (.ref b2)] [(.int (0 : Int32))])) _
      refine XS.ifNo X179.here hx rfl (hb hby at_241) rfl ((if0 _ _).trans (teq rfl).2) ?_
      show Steps p.tables e below (T179.setTop (mkF m 244 #[.val (.int p1), .val (.int p2), .val (.int p3), .val (.int aa), .val (.int bb), .val (.int sel), .val (.long dl), .second, .val (.double dd), .second, .val (.ref mo), .val (.ref b1), .val (.ref b2)] [])) _
      refine XS.aload X179.here hx rfl (hb hby at_244) rfl rfl ?_
      exact Steps.refl _
    obtain ⟨cq182, kq182, q182a, q182b, q182c⟩ := isOf hZ e179 E170_b1
    obtain ⟨_, _, ⟨T182, L182, k182, n182⟩, -, X182, ⟨Lc182, hQ182, l182, y182, z182⟩, st182⟩ := X179.virtualBack hx (y := (⟨"java/util/OptionalDouble", "getAsDouble", "()D"⟩ : MethodName)) (z := (⟨"java/util/OptionalDouble", "getAsDouble", "()D"⟩ : MethodName)) hown (mvT hZ (hw _ (List.mem_of_getElem? (i := 46) rfl))) (mvT hZ (hw _ (List.mem_of_getElem? (i := 47) rfl))) (notFace_of_selects (args := #[]) (mvT hZ (hw _ (List.mem_of_getElem? (i := 49) rfl)))) (mvT hZ (hw _ (List.mem_of_getElem? (i := 49) rfl))) (mvT hZ (hw _ (List.mem_of_getElem? (i := 48) rfl))) (by decide) (backOf (W := 0) (rmG l Z a0 hw [] b1 v1 T170.heap n0 Z170 F170_b1_isPresent F170_b1_value) hZ (hw _ (List.mem_of_getElem? (i := 50) rfl)) (hw _ (List.mem_of_getElem? (i := 28) rfl)) (by decide) (by decide)) q182a q182c (g := (mkF m 246 #[.val (.int p1), .val (.int p2), .val (.int p3), .val (.int aa), .val (.int bb), .val (.int sel), .val (.long dl), .second, .val (.double dd), .second, .val (.ref mo), .val (.ref b1), .val (.ref b2)] [(.ref b1)])) rfl (by rw [hml]; rfl) (Steps.refl _) (argsL := []) (rest := []) (lenOf pd_6 rfl) rfl (by show 2 * 0 + _ ≤ _; exact Nat.le_of_eq rfl) (hb hby at_246) (fun _ _ => ⟨rfl, e179, (by decide : ((((((((((0 + 1) + 0) + 0) + 0) + 0) + 1) + 1) + 0) + 0) + 0) + 0 ≤ _), (by decide : ((((((((((0 + 3) + 0) + 0) + 0) + 0) + 2) + 2) + 0) + 0) + 0) + 0 ≤ _)⟩)
    dsimp only [Pt.U, Pt.locs, Pt.cells, Pt.slots] at X182 l182 y182 z182 st182 hQ182
    subst l182 y182 z182
    obtain ⟨rfl, Nq182, e182⟩ := hQ182
    have N182 := Fr.app N179 Nq182
    have r183 : Steps p.tables e below S0 (T182.setTop (mkF m 249 #[.val (.int p1), .val (.int p2), .val (.int p3), .val (.int aa), .val (.int bb), .val (.int sel), .val (.long dl), .second, .val (.double dd), .second, .val (.ref mo), .val (.ref b1), .val (.ref b2)] [(.double v1)])) := r181.trans st182
    obtain ⟨w2, hw2⟩ : ∃ z, FP.ddiv dd (4611686018427387904 : UInt64) = z := ⟨_, rfl⟩
    have yw2 : Dy ((bb.toInt - aa.toInt) * (bb.toInt - aa.toInt)) 1 w2 := hw2 ▸ ((((ydd.scale 1).cast (by rfl) rfl : Dy (((bb.toInt - aa.toInt) * (bb.toInt - aa.toInt)) * 2) 1 dd)).div y2 (by decide) rfl (by omega) (by decide))
    obtain ⟨w3, hw3⟩ : ∃ z, FP.ddiv w2 (4613937818241073152 : UInt64) = z := ⟨_, rfl⟩
    have r184 : Steps p.tables e below S0 (T182.setTop (mkF m 268 #[.val (.int p1), .val (.int p2), .val (.int p3), .val (.int aa), .val (.int bb), .val (.int sel), .val (.long dl), .second, .val (.double dd), .second, .val (.ref mo), .val (.ref b1), .val (.ref b2)] [(.int (1 : Int32))])) := by
      refine r183.trans ?_
      show Steps p.tables e below (T182.setTop (mkF m 249 #[.val (.int p1), .val (.int p2), .val (.int p3), .val (.int aa), .val (.int bb), .val (.int sel), .val (.long dl), .second, .val (.double dd), .second, .val (.ref mo), .val (.ref b1), .val (.ref b2)] [(.double v1)])) _
      refine XS.dload X182.here hx rfl (hb hby at_249) rfl ?_
      show Steps p.tables e below (T182.setTop (mkF m 251 #[.val (.int p1), .val (.int p2), .val (.int p3), .val (.int aa), .val (.int bb), .val (.int sel), .val (.long dl), .second, .val (.double dd), .second, .val (.ref mo), .val (.ref b1), .val (.ref b2)] [(.double dd), (.double v1)])) _
      refine X182.ldc2DoubleC hx hown (mvT hZ (hw _ (List.mem_of_getElem? (i := 52) rfl))) (g := (mkF m 251 #[.val (.int p1), .val (.int p2), .val (.int p3), .val (.int aa), .val (.int bb), .val (.int sel), .val (.long dl), .second, .val (.double dd), .second, .val (.ref mo), .val (.ref b1), .val (.ref b2)] [(.double dd), (.double v1)])) rfl (hb hby at_251) _ ?_
      show Steps p.tables e below (T182.setTop (mkF m 254 #[.val (.int p1), .val (.int p2), .val (.int p3), .val (.int aa), .val (.int bb), .val (.int sel), .val (.long dl), .second, .val (.double dd), .second, .val (.ref mo), .val (.ref b1), .val (.ref b2)] [(.double (4611686018427387904 : UInt64)), (.double dd), (.double v1)])) _
      refine XS.ddivS X182.here hx rfl (hb hby at_254) rfl (by rw [hw2]; exact yw2.noNaN) hw2 ?_
      show Steps p.tables e below (T182.setTop (mkF m 255 #[.val (.int p1), .val (.int p2), .val (.int p3), .val (.int aa), .val (.int bb), .val (.int sel), .val (.long dl), .second, .val (.double dd), .second, .val (.ref mo), .val (.ref b1), .val (.ref b2)] [(.double w2), (.double v1)])) _
      refine X182.ldc2DoubleC hx hown (mvT hZ (hw _ (List.mem_of_getElem? (i := 53) rfl))) (g := (mkF m 255 #[.val (.int p1), .val (.int p2), .val (.int p3), .val (.int aa), .val (.int bb), .val (.int sel), .val (.long dl), .second, .val (.double dd), .second, .val (.ref mo), .val (.ref b1), .val (.ref b2)] [(.double w2), (.double v1)])) rfl (hb hby at_255) _ ?_
      show Steps p.tables e below (T182.setTop (mkF m 258 #[.val (.int p1), .val (.int p2), .val (.int p3), .val (.int aa), .val (.int bb), .val (.int sel), .val (.long dl), .second, .val (.double dd), .second, .val (.ref mo), .val (.ref b1), .val (.ref b2)] [(.double (4613937818241073152 : UInt64)), (.double w2), (.double v1)])) _
      refine XS.ddivS X182.here hx rfl (hb hby at_258) rfl (div_noNaN yw2 y3 (by decide)) hw3 ?_
      show Steps p.tables e below (T182.setTop (mkF m 259 #[.val (.int p1), .val (.int p2), .val (.int p3), .val (.int aa), .val (.int bb), .val (.int sel), .val (.long dl), .second, .val (.double dd), .second, .val (.ref mo), .val (.ref b1), .val (.ref b2)] [(.double w3), (.double v1)])) _
      refine XS.dcmpS X182.here hx rfl (hb hby at_259) rfl (show cmpValue (FP.dcmp v1 w3) .l = (0 : Int32) from (by rw [← hv1, ← hw3, div_cmp_eq ys3 (dy_l (n := 3) (by decide) (by decide)) (by decide) yw2 y3 (by decide) (by decide) (by decide) rfl] <;> rfl)) ?_
      show Steps p.tables e below (T182.setTop (mkF m 260 #[.val (.int p1), .val (.int p2), .val (.int p3), .val (.int aa), .val (.int bb), .val (.int sel), .val (.long dl), .second, .val (.double dd), .second, .val (.ref mo), .val (.ref b1), .val (.ref b2)] [(.int (0 : Int32))])) _
      refine XS.ifNo X182.here hx rfl (hb hby at_260) rfl ((if0 _ _).trans (teq rfl).2) ?_
      show Steps p.tables e below (T182.setTop (mkF m 263 #[.val (.int p1), .val (.int p2), .val (.int p3), .val (.int aa), .val (.int bb), .val (.int sel), .val (.long dl), .second, .val (.double dd), .second, .val (.ref mo), .val (.ref b1), .val (.ref b2)] [])) _
      refine XS.iconst X182.here hx rfl (hb hby at_263) ?_
      show Steps p.tables e below (T182.setTop (mkF m 264 #[.val (.int p1), .val (.int p2), .val (.int p3), .val (.int aa), .val (.int bb), .val (.int sel), .val (.long dl), .second, .val (.double dd), .second, .val (.ref mo), .val (.ref b1), .val (.ref b2)] [(.int (1 : Int32))])) _
      refine XS.goto X182.here hx rfl (pc0 := 264) (pc' := 268) rfl (hb hby at_264) (by decide) (by decide) ?_
      exact Steps.refl _
    obtain ⟨fs, hr, hrun, hended, hW, hsame⟩ := X182.leave (v := some (.int (1 : Int32))) (fun h => by rw [Bd.returns] at h; cases h)
    refine ⟨_, _, pre0 _ ?_, hrun, hended, _, _, rfl, ?_, ⟨_, rfl⟩, hW, hsame.mono (by decide) (by decide)⟩
    · rw [← hS0]
      refine r184.trans ?_
      show Steps p.tables e below (T182.setTop (mkF m 268 #[.val (.int p1), .val (.int p2), .val (.int p3), .val (.int aa), .val (.int bb), .val (.int sel), .val (.long dl), .second, .val (.double dd), .second, .val (.ref mo), .val (.ref b1), .val (.ref b2)] [(.int (1 : Int32))])) _
      exact retB X182 hx Bd.returns (by first | exact Or.inr rfl | exact Or.inl rfl | (split <;> simp)) (hb hby at_268) hr
    · exact ⟨rfl, N182⟩
set_option maxRecDepth 65536 in
set_option maxHeartbeats 40000000 in
theorem comes_1 {Post : Tables → Env → Array Value → State → Outcome → State → Prop} (hpost : ∀ tb e args s v u, (limb_1_1.after args s (.returned v) u = true ∧ limb_1_2.after args s (.returned v) u = true ∧ True) → FrameEnd s (.returned v) u (Jvm.fieldLocs frame_1_writes args s ++ Jvm.arrayLocs frame_1_arrays args s ++ Jvm.staticLocs frame_1_statics s) 16 128 → Post tb e args s (.returned v) u) :
    ArmFor flags0 classFile x code maxLocals ret World_1 tables_1 room_1 Calls_1 rest_1 Pre_1 Post := by
  intro l hfl _ _ p e ha hc hk s m args below hf hA hF happ hP
  obtain ⟨hcalls, hrest, hpre⟩ := hP
  obtain ⟨-, -, -, hnamed, -, -, -, hat⟩ := (Spec.applies_iff hf).mp happ
  obtain ⟨hg, hn⟩ := and_e (Cond.before_iff.mp (show (Jvm.Cond.and given_1 narrow_1).before args s = true from hpre))
  obtain ⟨g0, hg⟩ := and_e hg
  obtain ⟨ga0, hg⟩ := and_e hg
  obtain ⟨ga1, hg⟩ := and_e hg
  have ga2 := hg
  obtain ⟨w0, w1, w2, rfl⟩ : ∃ w0 w1 w2 : Value, args = #[w0, w1, w2] := by
    have hs : args.size = 3 := by simpa [Cond.value, given_1] using g0
    obtain ⟨L⟩ := args
    match L, hs with
    | [w0, w1, w2], _ => exact ⟨w0, w1, w2, rfl⟩
  have hw := fun d (hd : d ∈ tables_1) => atoms_spec (ws := Jvm.Cond.code x code maxLocals ret :: tables_1) hat d (List.mem_cons_of_mem _ hd)
  have hfit : Fit s := fun {y c} hc i hi => by
    obtain ⟨ha, rfl⟩ := Array.getElem?_eq_some_iff.mp hc
    have q := List.all_eq_true.mp ((Array.all_eq_true_iff_forall_mem.mp hF) _ (Array.getElem_mem ha)) i (List.mem_range.mpr hi)
    simpa [Array.getElem?_eq_getElem hi] using q
  obtain ⟨hsets, hown0⟩ := atoms_of _ (rest_1_c_eq ▸ (show rest_1_c.before _ s = true from hrest))
  obtain ⟨i0, ei0⟩ := is_v ga0
  obtain rfl : w0 = (.int i0) := Option.some.inj ei0
  obtain ⟨i1, ei1⟩ := is_v ga1
  obtain rfl : w1 = (.int i1) := Option.some.inj ei1
  obtain ⟨i2, ei2⟩ := is_v ga2
  obtain rfl : w2 = (.int i2) := Option.some.inj ei2
  obtain ⟨w, evw⟩ := exa_v (Cond.before_iff.mp (hsets _ (List.mem_of_getElem? (i := 2) rfl)))
  have Sw := Sta.start evw (Or.inl (hsets _ (List.mem_of_getElem? (i := 1) rfl)))
  have Ew := Exa.start evw (Cond.before_iff.mp (hsets _ (List.mem_of_getElem? (i := 2) rfl)))
  have Fw : Fld s s.heap w "java/util/OptionalDouble" "isPresent" "Z" (.int (0 : Int32)) := own_fw evw (Cond.before_iff.mp (hsets _ (List.mem_of_getElem? (i := 3) rfl)))
  obtain ⟨n, o, h1, h2, h3, _, L, rfl, ⟨rfl, N⟩, hq⟩ := rm0 l s _ hw tables_1 i0 i1 i2 w s.heap s.heap.size (Nat.le_refl _) (Old.start s) Sw Ew Fw p e ha hc hk s m _ below hf ((Spec.applies_iff_loose hf).mp happ).1 ⟨rfl, State.Warmed39.refl s, rfl⟩ trivial
  refine ⟨n, _, h1, h2, h3, hpost _ _ _ _ _ _ ⟨Cond.after_iff.mpr rfl, Cond.after_iff.mpr (eq_i res_at (Term.int_eval (1)) rfl), trivial⟩ ⟨hq.1, hq.2.1, (hq.2.2.sift fun y hy => Or.inr (N y hy)).mono (by decide) (by decide)⟩⟩
theorem main_1_1 : Claimed_1_1 := comes_1 fun _ _ _ _ _ _ h hF => ⟨h.1, hF⟩
theorem main_1_2 : Claimed_1_2 := comes_1 fun _ _ _ _ _ _ h hF => ⟨h.2.1, hF⟩
end Jvm.Pilot.@@N@@
namespace Jvm.Pilot.@@N@@
open Jvm Jvm.ClassFile Sem Op Lib Jvm.Free Jvm.Stand Jvm.Pilot.@@N@@.Jvm.D
/-! MADE BY PROGRAM (witnessworld.py) out of the Statement's table words and the real class files: 10 classes; the members and pool entries that the words name. The judged class is class 1, her method 1. -/
namespace start1
open Jvm.ClassFile
def u (s : String) : CpInfo := .utf8 (stringToUtf16 s)
/-- a pool by its gaps: so many unusable entries, then the entry; so many at the end -/
def gap : Nat → List CpInfo → List CpInfo
  | 0, r => r
  | n + 1, r => .unusable :: gap n r
def poolList (es : List (Nat × CpInfo)) (last : Nat) : List CpInfo := es.foldr (fun e r => gap e.1 (e.2 :: r)) (gap last [])
def pool (es : List (Nat × CpInfo)) (last : Nat) : Array CpInfo := ⟨poolList es last⟩
def fileOf (pool : Array CpInfo) (this : Nat) (attrs : Array Attribute := #[]) (ms : Array MethodInfo := #[]) (fl : Nat := 33) (sup : Nat := 0) (ifs : Array Nat := #[]) (fds : Array FieldInfo := #[]) : ClassFile where
  minorVersion := 0
  majorVersion := 65
  constantPool := pool
  accessFlags := fl
  thisClass := this
  superClass := sup
  interfaces := ifs
  fields := fds
  methods := ms
  attributes := attrs
def plain (name : String) (sup : Option ClassId) : Class where
  name := name
  kind := .ordinary
  loader := none
  accessFlags := 33
  super := sup
  interfaces := #[]
  cf := none
  fields := #[]
  methods := #[]
  instanceTypes := #[]
  staticTypes := #[]
  resolved := #[]
  callSites := []
  init := .initialized
  statics := none
  mirror := none

def pool0 : Array CpInfo := pool [(5, u "<init>"), (0, u "()V"), (1, .class_ 10), (1, u "java/lang/Object")] 113

def k0c0 : Code := { maxStack := 0, maxLocals := 1, code := object_method_1_code, exceptionTable := #[], attributes := #[] }
def k0m0 : Method := { name := "<init>", desc := "()V", sig := { parameters := [], returnType := none }, accessFlags := 1, code := some k0c0 }
/-- java/lang/Object -/
def k0 : Class := { plain "java/lang/Object" none with
  accessFlags := 33
  interfaces := #[]
  cf := some (fileOf pool0 8 #[] #[{ accessFlags := 1, nameIndex := 5, descriptorIndex := 6, attributes := #[] }] 33 0 #[] #[])
  fields := #[]
  methods := #[k0m0]
  instanceTypes := #[]
  staticTypes := #[]
  resolved := Array.replicate 124 none
  statics := none }

def pool1 : Array CpInfo := pool [(2, .class_ 4), (0, .nameAndType 5 6), (0, u "java/lang/Object"), (0, u "<init>"), (0, u "()V"), (0, .integer 1000000), (0, .class_ 9), (0, u "org/rowfold/aggregate/Moments"), (0, .methodref 8 3), (0, .methodref 8 12), (0, .nameAndType 13 14), (0, u "add"), (0, u "(D)V"), (0, .double 4611686018427387904), (1, .methodref 8 18), (0, .nameAndType 19 20), (0, u "variance"), (0, u "(Z)Ljava/util/OptionalDouble;"), (0, .methodref 22 23), (0, .class_ 24), (0, .nameAndType 25 26), (0, u "java/util/OptionalDouble"), (0, u "isPresent"), (0, u "()Z"), (0, .methodref 22 28), (0, .nameAndType 29 30), (0, u "getAsDouble"), (0, u "()D"), (0, .double 4616189618054758400), (1, .double 4613937818241073152), (1, .class_ 36), (0, u "org/rowfold/aggregate/MomentsAddPinLaw"), (2, u "law"), (0, u "(III)Z")] 3

def k1m0 : Method := { name := "<init>", desc := "()V", sig := { parameters := [], returnType := none }, accessFlags := 1, code := none }
def k1c1 : Code := { maxStack := 6, maxLocals := 13, code := code, exceptionTable := #[], attributes := #[] }
def k1m1 : Method := { name := "law", desc := "(III)Z", sig := { parameters := [.int, .int, .int], returnType := some .boolean }, accessFlags := 9, code := some k1c1 }
/-- org/rowfold/aggregate/MomentsAddPinLaw -/
def k1 : Class := { plain "org/rowfold/aggregate/MomentsAddPinLaw" (some 0) with
  accessFlags := 49
  interfaces := #[]
  cf := some (fileOf pool1 35 #[] #[{ accessFlags := 1, nameIndex := 5, descriptorIndex := 6, attributes := #[] }, { accessFlags := 9, nameIndex := 39, descriptorIndex := 40, attributes := #[] }] 49 2 #[] #[])
  fields := #[]
  methods := #[k1m0, k1m1]
  instanceTypes := #[]
  staticTypes := #[]
  resolved := Array.replicate 44 none
  statics := none }

def pool2 : Array CpInfo := pool [(1, .methodref 2 3), (0, .class_ 4), (0, .nameAndType 5 6), (0, u "java/lang/Object"), (0, u "<init>"), (0, u "()V"), (0, .fieldref 8 9), (0, .class_ 10), (0, .nameAndType 11 12), (0, u "org/rowfold/aggregate/Moments"), (0, u "count"), (0, u "J"), (0, .fieldref 8 14), (0, .nameAndType 15 16), (0, u "mean"), (0, u "D"), (0, .fieldref 8 18), (0, .nameAndType 19 16), (0, u "squares"), (0, .methodref 21 22), (0, .class_ 23), (0, .nameAndType 24 25), (0, u "java/util/OptionalDouble"), (0, u "empty"), (0, u "()Ljava/util/OptionalDouble;"), (0, .methodref 21 27), (0, .nameAndType 28 29), (0, u "of"), (0, u "(D)Ljava/util/OptionalDouble;"), (2, u "add"), (0, u "(D)V"), (3, u "variance"), (0, u "(Z)Ljava/util/OptionalDouble;")] 2

def k2c0 : Code := { maxStack := 1, maxLocals := 1, code := prog_6_method_1_code, exceptionTable := #[], attributes := #[] }
def k2m0 : Method := { name := "<init>", desc := "()V", sig := { parameters := [], returnType := none }, accessFlags := 0, code := some k2c0 }
def k2c1 : Code := { maxStack := 9, maxLocals := 5, code := prog_6_method_2_code, exceptionTable := #[], attributes := #[] }
def k2m1 : Method := { name := "add", desc := "(D)V", sig := { parameters := [.double], returnType := none }, accessFlags := 0, code := some k2c1 }
def k2c2 : Code := { maxStack := 4, maxLocals := 4, code := prog_6_method_4_code, exceptionTable := #[], attributes := #[] }
def k2m2 : Method := { name := "variance", desc := "(Z)Ljava/util/OptionalDouble;", sig := { parameters := [.boolean], returnType := some (.object "java/util/OptionalDouble") }, accessFlags := 0, code := some k2c2 }
/-- org/rowfold/aggregate/Moments -/
def k2 : Class := { plain "org/rowfold/aggregate/Moments" (some 0) with
  accessFlags := 48
  interfaces := #[]
  cf := some (fileOf pool2 8 #[] #[{ accessFlags := 0, nameIndex := 5, descriptorIndex := 6, attributes := #[] }, { accessFlags := 0, nameIndex := 32, descriptorIndex := 33, attributes := #[] }, { accessFlags := 0, nameIndex := 37, descriptorIndex := 38, attributes := #[] }] 48 2 #[] #[{ accessFlags := 2, nameIndex := 11, descriptorIndex := 12, attributes := #[] }, { accessFlags := 2, nameIndex := 15, descriptorIndex := 16, attributes := #[] }, { accessFlags := 2, nameIndex := 19, descriptorIndex := 16, attributes := #[] }])
  fields := #[{ name := "count", type := .long, accessFlags := 2, slot := 0, constantValue := 0 }, { name := "mean", type := .double, accessFlags := 2, slot := 1, constantValue := 0 }, { name := "squares", type := .double, accessFlags := 2, slot := 2, constantValue := 0 }]
  methods := #[k2m0, k2m1, k2m2]
  instanceTypes := #[.long, .double, .double]
  staticTypes := #[]
  resolved := Array.replicate 41 none
  statics := none }

def pool3 : Array CpInfo := pool [(1, .methodref 2 3), (0, .class_ 4), (0, .nameAndType 5 6), (0, u "java/lang/Object"), (0, u "<init>"), (0, u "()V"), (0, .fieldref 8 9), (0, .class_ 10), (0, .nameAndType 11 12), (0, u "java/util/OptionalDouble"), (0, u "isPresent"), (0, u "Z"), (4, .fieldref 8 18), (0, .nameAndType 19 20), (0, u "value"), (0, u "D"), (0, .fieldref 8 22), (0, .nameAndType 23 24), (0, u "EMPTY"), (0, u "Ljava/util/OptionalDouble;"), (0, .methodref 8 26), (0, .nameAndType 5 27), (0, u "(D)V"), (21, u "of"), (3, u "empty"), (5, u "getAsDouble"), (0, u "()D"), (41, u "()Ljava/util/OptionalDouble;"), (0, u "(D)Ljava/util/OptionalDouble;"), (1, u "()Z")] 38

def k3m0 : Method := { name := "<init>", desc := "()V", sig := { parameters := [], returnType := none }, accessFlags := 2, code := none }
def k3c1 : Code := { maxStack := 1, maxLocals := 0, code := jdk_2648_method_2_code, exceptionTable := #[], attributes := #[] }
def k3m1 : Method := { name := "empty", desc := "()Ljava/util/OptionalDouble;", sig := { parameters := [], returnType := some (.object "java/util/OptionalDouble") }, accessFlags := 9, code := some k3c1 }
def k3c2 : Code := { maxStack := 3, maxLocals := 3, code := jdk_2648_method_3_code, exceptionTable := #[], attributes := #[] }
def k3m2 : Method := { name := "<init>", desc := "(D)V", sig := { parameters := [.double], returnType := none }, accessFlags := 2, code := some k3c2 }
def k3c3 : Code := { maxStack := 4, maxLocals := 2, code := jdk_2648_method_4_code, exceptionTable := #[], attributes := #[] }
def k3m3 : Method := { name := "of", desc := "(D)Ljava/util/OptionalDouble;", sig := { parameters := [.double], returnType := some (.object "java/util/OptionalDouble") }, accessFlags := 9, code := some k3c3 }
def k3c4 : Code := { maxStack := 3, maxLocals := 1, code := jdk_2648_method_5_code, exceptionTable := #[], attributes := #[] }
def k3m4 : Method := { name := "getAsDouble", desc := "()D", sig := { parameters := [], returnType := some .double }, accessFlags := 1, code := some k3c4 }
def k3c5 : Code := { maxStack := 1, maxLocals := 1, code := jdk_2648_method_6_code, exceptionTable := #[], attributes := #[] }
def k3m5 : Method := { name := "isPresent", desc := "()Z", sig := { parameters := [], returnType := some .boolean }, accessFlags := 1, code := some k3c5 }
/-- java/util/OptionalDouble -/
def k3 : Class := { plain "java/util/OptionalDouble" (some 0) with
  accessFlags := 49
  interfaces := #[]
  cf := some (fileOf pool3 8 #[] #[{ accessFlags := 2, nameIndex := 5, descriptorIndex := 6, attributes := #[] }, { accessFlags := 9, nameIndex := 53, descriptorIndex := 102, attributes := #[] }, { accessFlags := 2, nameIndex := 5, descriptorIndex := 27, attributes := #[] }, { accessFlags := 9, nameIndex := 49, descriptorIndex := 103, attributes := #[] }, { accessFlags := 1, nameIndex := 59, descriptorIndex := 60, attributes := #[] }, { accessFlags := 1, nameIndex := 11, descriptorIndex := 105, attributes := #[] }] 49 2 #[] #[{ accessFlags := 26, nameIndex := 23, descriptorIndex := 24, attributes := #[] }, { accessFlags := 18, nameIndex := 11, descriptorIndex := 12, attributes := #[] }, { accessFlags := 18, nameIndex := 19, descriptorIndex := 20, attributes := #[] }])
  fields := #[{ name := "EMPTY", type := (.object "java/util/OptionalDouble"), accessFlags := 26, slot := 0, constantValue := 0 }, { name := "isPresent", type := .boolean, accessFlags := 18, slot := 0, constantValue := 0 }, { name := "value", type := .double, accessFlags := 18, slot := 1, constantValue := 0 }]
  methods := #[k3m0, k3m1, k3m2, k3m3, k3m4, k3m5]
  instanceTypes := #[.boolean, .double]
  staticTypes := #[(.object "java/util/OptionalDouble")]
  resolved := Array.replicate 144 none
  statics := some 0 }

def pool4 : Array CpInfo := pool [(1, u "java/lang/Cloneable"), (0, .class_ 1), (0, u "java/lang/Object"), (0, .class_ 3)] 3

/-- java/lang/Cloneable -/
def k4 : Class := { plain "java/lang/Cloneable" (some 0) with
  accessFlags := 1537
  interfaces := #[]
  cf := some (fileOf pool4 2 #[] #[] 1537 4 #[] #[])
  fields := #[]
  methods := #[]
  instanceTypes := #[]
  staticTypes := #[]
  resolved := Array.replicate 8 none
  statics := none }

def pool5 : Array CpInfo := pool [(1, u "java/io/Serializable"), (0, .class_ 1), (0, u "java/lang/Object"), (0, .class_ 3)] 3

/-- java/io/Serializable -/
def k5 : Class := { plain "java/io/Serializable" (some 0) with
  accessFlags := 1537
  interfaces := #[]
  cf := some (fileOf pool5 2 #[] #[] 1537 4 #[] #[])
  fields := #[]
  methods := #[]
  instanceTypes := #[]
  staticTypes := #[]
  resolved := Array.replicate 8 none
  statics := none }

/-- the primitive byte -/
def k6 : Class := { plain "byte" none with kind := .primitive 'B', accessFlags := 0x411 }
/-- [B -/
def k7 : Class := { plain "[B" (some 0) with kind := .array 6 .byte, interfaces := #[4, 5], accessFlags := 1041 }

/-- the primitive int -/
def k8 : Class := { plain "int" none with kind := .primitive 'I', accessFlags := 0x411 }
/-- [I -/
def k9 : Class := { plain "[I" (some 0) with kind := .array 8 .int, interfaces := #[4, 5], accessFlags := 1041 }

def heap : Heap := #[{ cls := 3, slots := #[.ref 1], vm := .statics 3 },
  { cls := 3, slots := #[.int 0, .double 0], vm := .none }]
def classes : Array Class := #[k0, k1, k2, k3, k4, k5, k6, k7, k8, k9]
def interned : List (Array UInt16 × Addr) := []
def slotsUsed : Nat := 3
def theMethod : MethodId := ⟨1, 1⟩
def args0 : Array Value := #[.int 5, .int 5, .int 5]
def aboutOver (below : List Frame) : State where
  vm := { classes := classes, interned := interned.toArray }
  heap := heap
  slotsUsed := slotsUsed
  threads := #[{ frames := .invoking theMethod args0 :: below }]
def below0 : List Frame := [.native { method := ⟨0, 0⟩, args := #[] }]
def about1 : State := aboutOver below0
def p0 : Program := .bare "" "" ""
def e0 : Env := launch0.env 0 0 0
theorem w_frames : about1.frames = Frame.invoking theMethod args0 :: below0 := rfl
set_option maxRecDepth 65536 in
theorem w_args : argsFit about1.vm theMethod args0 = true := by decide +kernel
set_option maxRecDepth 65536 in
theorem w_heap : heapFits about1 = true := by decide +kernel
set_option maxRecDepth 65536 in
theorem w_runnable : about1.curStatus? = some .runnable := by decide +kernel
set_option maxRecDepth 65536 in
theorem w_alone : about1.alone = true := by decide +kernel
set_option maxRecDepth 65536 in
theorem w_named : about1.methodNamed? x = some theMethod := by decide +kernel
set_option maxRecDepth 65536 in
theorem w_hears : about1.hears theMethod below0 = true := by decide +kernel
set_option maxRecDepth 65536 in
theorem w_ripe : about1.ripe theMethod args0 below0 = true := by decide +kernel
theorem w_running : about1.status = .running := rfl
set_option maxRecDepth 65536 in
theorem w_room : about1.hasRoom e0.platform room_1 = true :=
  launch0.hasRoom_least _ room_1 (by decide +kernel) (by decide +kernel) (by decide +kernel) (by decide +kernel) (by decide +kernel) (by decide +kernel)
theorem allAtoms_all (ts : List Jvm.Cond) (a : Array Jvm.Value) (st : Jvm.State) : (allAtoms ts).before a st = ts.all (fun c => c.before a st) := by
  induction ts with
  | nil => rfl
  | cons c t ih =>
    show (Jvm.Cond.and c (allAtoms t)).before a st = _
    rw [Jvm.Cond.before_and, ih, List.all_cons]
def words1 : List Jvm.Cond := Jvm.Cond.code x code maxLocals ret :: tables_1
/-- a 'code' word, met by the world's own term for the bytes: nothing is compared byte by byte -/
theorem code_word {y : MethodName} {bytes : ByteArray} {mx : Nat} {rt : Option FieldType} {a : Array Value} {s : State} {m : MethodId} {meth : Method} {c : Code} (h1 : s.methodNamed? y = some m) (h2 : s.vm.method? m = some meth) (h3 : meth.code = some c) (h4 : c.code = bytes)
    (h5 : (c.maxLocals == mx && c.exceptionTable.isEmpty && decide (c.maxStack ≤ mostOperands) && decide (meth.sig.returnType = rt) && !meth.locks && decide (parseMethodDescriptor y.desc = some meth.sig)) = true) : (Jvm.Cond.code y bytes mx rt).before a s = true := by
  simp only [Bool.and_eq_true, beq_iff_eq, Bool.not_eq_true', decide_eq_true_eq] at h5
  obtain ⟨⟨⟨⟨⟨g1, g2⟩, g3⟩, g4⟩, g5⟩, g6⟩ := h5
  simp [Cond.before, Cond.holds, Cond.value, h1, h2, h3, h4, g1, g2, g3, g4, g5, g6]
def isCode : Jvm.Cond → Bool
  | .code _ _ _ _ => true
  | _ => false
theorem all_split {L : List Jvm.Cond} {P : Jvm.Cond → Bool} (h1 : L.all (fun c => isCode c || P c) = true) (h2 : ∀ c ∈ L.filter isCode, P c = true) : L.all P = true := by
  refine List.all_eq_true.mpr fun c hc => ?_
  have h := List.all_eq_true.mp h1 c hc
  rcases Bool.eq_false_or_eq_true (isCode c) with hi | hi
  · exact h2 c (List.mem_filter.mpr ⟨hc, hi⟩)
  · simpa [hi] using h
set_option maxRecDepth 65536 in
theorem w_c0 : (Jvm.Cond.code x code maxLocals ret).before args0 about1 = true := code_word (m := ⟨1, 1⟩) (meth := k1m1) (c := k1c1) (by decide +kernel) rfl rfl rfl (by decide +kernel)
set_option maxRecDepth 65536 in
theorem w_c1 : (Jvm.Cond.code ({ cls := "org/rowfold/aggregate/Moments", name := "<init>", desc := "()V" } : Jvm.MethodName) prog_6_method_1_code (1 : Nat) (Option.none : Option Jvm.ClassFile.FieldType)).before args0 about1 = true := code_word (m := ⟨2, 0⟩) (meth := k2m0) (c := k2c0) (by decide +kernel) rfl rfl rfl (by decide +kernel)
set_option maxRecDepth 65536 in
theorem w_c2 : (Jvm.Cond.code ({ cls := "java/lang/Object", name := "<init>", desc := "()V" } : Jvm.MethodName) object_method_1_code (1 : Nat) (Option.none : Option Jvm.ClassFile.FieldType)).before args0 about1 = true := code_word (m := ⟨0, 0⟩) (meth := k0m0) (c := k0c0) (by decide +kernel) rfl rfl rfl (by decide +kernel)
set_option maxRecDepth 65536 in
theorem w_c3 : (Jvm.Cond.code ({ cls := "org/rowfold/aggregate/Moments", name := "add", desc := "(D)V" } : Jvm.MethodName) prog_6_method_2_code (5 : Nat) (Option.none : Option Jvm.ClassFile.FieldType)).before args0 about1 = true := code_word (m := ⟨2, 1⟩) (meth := k2m1) (c := k2c1) (by decide +kernel) rfl rfl rfl (by decide +kernel)
set_option maxRecDepth 65536 in
theorem w_c4 : (Jvm.Cond.code ({ cls := "org/rowfold/aggregate/Moments", name := "variance", desc := "(Z)Ljava/util/OptionalDouble;" } : Jvm.MethodName) prog_6_method_4_code (4 : Nat) (Option.some (Jvm.ClassFile.FieldType.object "java/util/OptionalDouble"))).before args0 about1 = true := code_word (m := ⟨2, 2⟩) (meth := k2m2) (c := k2c2) (by decide +kernel) rfl rfl rfl (by decide +kernel)
set_option maxRecDepth 65536 in
theorem w_c5 : (Jvm.Cond.code ({ cls := "java/util/OptionalDouble", name := "of", desc := "(D)Ljava/util/OptionalDouble;" } : Jvm.MethodName) jdk_2648_method_4_code (2 : Nat) (Option.some (Jvm.ClassFile.FieldType.object "java/util/OptionalDouble"))).before args0 about1 = true := code_word (m := ⟨3, 3⟩) (meth := k3m3) (c := k3c3) (by decide +kernel) rfl rfl rfl (by decide +kernel)
set_option maxRecDepth 65536 in
theorem w_c6 : (Jvm.Cond.code ({ cls := "java/util/OptionalDouble", name := "<init>", desc := "(D)V" } : Jvm.MethodName) jdk_2648_method_3_code (3 : Nat) (Option.none : Option Jvm.ClassFile.FieldType)).before args0 about1 = true := code_word (m := ⟨3, 2⟩) (meth := k3m2) (c := k3c2) (by decide +kernel) rfl rfl rfl (by decide +kernel)
set_option maxRecDepth 65536 in
theorem w_c7 : (Jvm.Cond.code ({ cls := "java/util/OptionalDouble", name := "isPresent", desc := "()Z" } : Jvm.MethodName) jdk_2648_method_6_code (1 : Nat) (Option.some Jvm.ClassFile.FieldType.boolean)).before args0 about1 = true := code_word (m := ⟨3, 5⟩) (meth := k3m5) (c := k3c5) (by decide +kernel) rfl rfl rfl (by decide +kernel)
set_option maxRecDepth 65536 in
theorem w_c8 : (Jvm.Cond.code ({ cls := "java/util/OptionalDouble", name := "getAsDouble", desc := "()D" } : Jvm.MethodName) jdk_2648_method_5_code (1 : Nat) (Option.some Jvm.ClassFile.FieldType.double)).before args0 about1 = true := code_word (m := ⟨3, 4⟩) (meth := k3m4) (c := k3c4) (by decide +kernel) rfl rfl rfl (by decide +kernel)
set_option maxRecDepth 65536 in
theorem w_c9 : (Jvm.Cond.code ({ cls := "java/util/OptionalDouble", name := "empty", desc := "()Ljava/util/OptionalDouble;" } : Jvm.MethodName) jdk_2648_method_2_code (0 : Nat) (Option.some (Jvm.ClassFile.FieldType.object "java/util/OptionalDouble"))).before args0 about1 = true := code_word (m := ⟨3, 1⟩) (meth := k3m1) (c := k3c1) (by decide +kernel) rfl rfl rfl (by decide +kernel)
def codes1 : List Jvm.Cond := [Jvm.Cond.code x code maxLocals ret, Jvm.Cond.code ({ cls := "org/rowfold/aggregate/Moments", name := "<init>", desc := "()V" } : Jvm.MethodName) prog_6_method_1_code (1 : Nat) (Option.none : Option Jvm.ClassFile.FieldType), Jvm.Cond.code ({ cls := "java/lang/Object", name := "<init>", desc := "()V" } : Jvm.MethodName) object_method_1_code (1 : Nat) (Option.none : Option Jvm.ClassFile.FieldType), Jvm.Cond.code ({ cls := "org/rowfold/aggregate/Moments", name := "add", desc := "(D)V" } : Jvm.MethodName) prog_6_method_2_code (5 : Nat) (Option.none : Option Jvm.ClassFile.FieldType), Jvm.Cond.code ({ cls := "org/rowfold/aggregate/Moments", name := "variance", desc := "(Z)Ljava/util/OptionalDouble;" } : Jvm.MethodName) prog_6_method_4_code (4 : Nat) (Option.some (Jvm.ClassFile.FieldType.object "java/util/OptionalDouble")), Jvm.Cond.code ({ cls := "java/util/OptionalDouble", name := "of", desc := "(D)Ljava/util/OptionalDouble;" } : Jvm.MethodName) jdk_2648_method_4_code (2 : Nat) (Option.some (Jvm.ClassFile.FieldType.object "java/util/OptionalDouble")), Jvm.Cond.code ({ cls := "java/util/OptionalDouble", name := "<init>", desc := "(D)V" } : Jvm.MethodName) jdk_2648_method_3_code (3 : Nat) (Option.none : Option Jvm.ClassFile.FieldType), Jvm.Cond.code ({ cls := "java/util/OptionalDouble", name := "isPresent", desc := "()Z" } : Jvm.MethodName) jdk_2648_method_6_code (1 : Nat) (Option.some Jvm.ClassFile.FieldType.boolean), Jvm.Cond.code ({ cls := "java/util/OptionalDouble", name := "getAsDouble", desc := "()D" } : Jvm.MethodName) jdk_2648_method_5_code (1 : Nat) (Option.some Jvm.ClassFile.FieldType.double), Jvm.Cond.code ({ cls := "java/util/OptionalDouble", name := "empty", desc := "()Ljava/util/OptionalDouble;" } : Jvm.MethodName) jdk_2648_method_2_code (0 : Nat) (Option.some (Jvm.ClassFile.FieldType.object "java/util/OptionalDouble"))]
set_option maxRecDepth 65536 in
theorem codes_eq : words1.filter isCode = codes1 := rfl
theorem w_codes : ∀ c ∈ words1.filter isCode, c.before args0 about1 = true := by
  rw [codes_eq]
  intro c hc
  simp only [codes1, List.mem_cons, List.not_mem_nil, or_false] at hc
  rcases hc with rfl | rfl | rfl | rfl | rfl | rfl | rfl | rfl | rfl | rfl
  · exact w_c0
  · exact w_c1
  · exact w_c2
  · exact w_c3
  · exact w_c4
  · exact w_c5
  · exact w_c6
  · exact w_c7
  · exact w_c8
  · exact w_c9
set_option maxRecDepth 65536 in
theorem w_t1 : (words1.take 24).all (fun c => isCode c || c.before args0 about1) = true := by decide +kernel
set_option maxRecDepth 65536 in
theorem w_t2 : ((words1.drop 24).take 24).all (fun c => isCode c || c.before args0 about1) = true := by decide +kernel
set_option maxRecDepth 65536 in
theorem w_t3 : ((words1.drop 24).drop 24).all (fun c => isCode c || c.before args0 about1) = true := by decide +kernel
theorem w_tables : (allAtoms (Jvm.Cond.code x code maxLocals ret :: tables_1)).before args0 about1 = true := by
  rw [allAtoms_all]
  show words1.all (fun c => c.before args0 about1) = true
  refine all_split ?_ w_codes
  rw [← List.take_append_drop 24 words1, List.all_append, w_t1, ← List.take_append_drop 24 (words1.drop 24), List.all_append, w_t2, w_t3]
  rfl
set_option maxRecDepth 65536 in
theorem w_rest : rest_1_c.before args0 about1 = true := by decide +kernel
set_option maxRecDepth 65536 in
theorem w_case : (Jvm.Cond.and given_1 narrow_1).before args0 about1 = true := by decide +kernel
theorem w_applies : (headSpec (Jvm.Cond.code x code maxLocals ret :: tables_1) room_1).applies x e0.platform about1 = true :=
  (Spec.applies_iff w_frames).mpr ⟨w_running, w_runnable, w_alone, w_named, w_hears, w_ripe, w_room, w_tables⟩
theorem atStart : AtStart classFile x code maxLocals ret World_1 tables_1 room_1 Calls_1 rest_1 Pre_1 launch0 p0 e0 about1 theMethod args0 below0 :=
  ⟨lists_1, trivial, launch0.admits_env _ _ _, launch0.least_env, fairChoices_fair.cas, fairChoices_fair.clock, w_frames, w_args, w_heap, w_applies, trivial, w_rest, w_case⟩
end start1
theorem witness_1 : WitnessClaimed_1 := ⟨start1.p0, start1.e0, start1.about1, start1.theMethod, start1.args0, start1.below0, start1.atStart⟩
end Jvm.Pilot.@@N@@
