import JvmDerived
import JvmDerived.Pilot.@@N@@Statement
import JvmDerived.Pilot.@@N@@Code
set_option linter.unusedVariables false
set_option linter.unusedSimpArgs false
namespace Jvm.OwnF
open Jvm.FP Jvm.Free.Fl
/-! Exact dyadic arithmetic on doubles: Dy i k u says that the double u is the number i / 2^k. -/
/-- the datum times 2^k -/
def sh (k : Int) : Core.Datum → Core.Datum
  | .nan => .nan
  | .inf s => .inf s
  | .fin s c q => .fin s c (q + k)
def Dy (i : Int) (k : Nat) (u : UInt64) : Prop := Core.Whole i (sh k (Core.val64 u))
theorem ifc3 {α : Type} {p q : Prop} [Decidable p] [Decidable q] {a b c d : α} (h : p ↔ q) (h1 : a = c) (h2 : b = d) : (if p then a else b) = (if q then c else d) := by
  subst h1 h2
  by_cases hp : p
  · rw [if_pos hp, if_pos (h.mp hp)]
  · rw [if_neg hp, if_neg (fun z => hp (h.mpr z))]
theorem mpos {a b : Int} (hb : 0 < b) : 0 < a * b ↔ 0 < a := by
  constructor
  · intro h
    refine Int.lt_of_not_ge fun hle => ?_
    have q := Int.mul_le_mul_of_nonneg_right hle (Int.le_of_lt hb)
    rw [Int.zero_mul] at q
    omega
  · intro h
    exact Int.mul_pos h hb
theorem sh_zero (d : Core.Datum) : sh ((0 : Nat) : Int) d = d := by
  cases d with
  | nan => rfl
  | inf s => rfl
  | fin s c q => show Core.Datum.fin s c (q + ((0 : Nat) : Int)) = _; rw [show q + ((0 : Nat) : Int) = q by omega]
theorem sh_neg (k : Int) (d : Core.Datum) : Core.negate (sh k d) = sh k (Core.negate d) := by cases d <;> rfl
theorem sh_sum (k : Int) (x y : Core.Datum) : Core.exactSum (sh k x) (sh k y) = sh k (Core.exactSum x y) := by
  cases x with
  | nan => cases y <;> rfl
  | inf s =>
    cases y with
    | nan => rfl
    | inf t => show (if s = t then Core.Datum.inf s else .nan) = sh k (if s = t then Core.Datum.inf s else .nan); split <;> rfl
    | fin t d r => rfl
  | fin s c q =>
    cases y with
    | nan => rfl
    | inf t => rfl
    | fin t d r =>
      have hm : min (q + k) (r + k) = min q r + k := by omega
      have hu : Core.sumUnits s c (q + k) t d (r + k) (min (q + k) (r + k)) = Core.sumUnits s c q t d r (min q r) := by
        rw [hm]
        unfold Core.sumUnits Core.inUnits
        rw [show q + k - (min q r + k) = q - min q r by omega, show r + k - (min q r + k) = r - min q r by omega]
      show Core.Datum.fin (Core.sumSign s t (Core.sumUnits s c (q + k) t d (r + k) (min (q + k) (r + k)))) (Core.sumUnits s c (q + k) t d (r + k) (min (q + k) (r + k))).natAbs (min (q + k) (r + k)) = Core.Datum.fin (Core.sumSign s t (Core.sumUnits s c q t d r (min q r))) (Core.sumUnits s c q t d r (min q r)).natAbs (min q r + k)
      rw [hu, hm]
theorem sh_prod (j k : Int) (x y : Core.Datum) : Core.exactProduct (sh j x) (sh k y) = sh (j + k) (Core.exactProduct x y) := by
  cases x with
  | nan => cases y <;> rfl
  | inf s =>
    cases y with
    | nan => rfl
    | inf t => rfl
    | fin t d r => show (if d = 0 then Core.Datum.nan else .inf (s != t)) = sh (j + k) (if d = 0 then Core.Datum.nan else .inf (s != t)); split <;> rfl
  | fin s c q =>
    cases y with
    | nan => rfl
    | inf t => show (if c = 0 then Core.Datum.nan else .inf (s != t)) = sh (j + k) (if c = 0 then Core.Datum.nan else .inf (s != t)); split <;> rfl
    | fin t d r => show Core.Datum.fin (s != t) (c * d) (q + j + (r + k)) = Core.Datum.fin (s != t) (c * d) (q + r + (j + k)); rw [show q + j + (r + k) = q + r + (j + k) by omega]
theorem sh_order (k : Int) (x y : Core.Datum) : Core.order (sh k x) (sh k y) = Core.order x y := by
  cases x with
  | nan => cases y <;> rfl
  | inf s => cases y <;> rfl
  | fin s c q =>
    cases y with
    | nan => rfl
    | inf t => rfl
    | fin t d r =>
      have hm : min (q + k) (r + k) = min q r + k := by omega
      show some (compare (Core.signed s (Core.inUnits c (q + k) (min (q + k) (r + k)))) (Core.signed t (Core.inUnits d (r + k) (min (q + k) (r + k))))) = some (compare (Core.signed s (Core.inUnits c q (min q r))) (Core.signed t (Core.inUnits d r (min q r))))
      unfold Core.inUnits
      rw [hm, show q + k - (min q r + k) = q - min q r by omega, show r + k - (min q r + k) = r - min q r by omega]
theorem sgn_whole {i : Int} {s : Bool} {c : Nat} {q : Int} (h : Core.Whole i (.fin s c q)) : Core.signed s i.natAbs = i := by
  by_cases hi0 : i = 0
  · rw [hi0]; exact Core.signed_zero s
  · rw [Core.whole_sign h hi0]
    unfold Core.signed
    by_cases h : i < 0 <;> simp [h] <;> omega
/-- n / 2^k, rounded, is exact -/
theorem ratio_exact (s : Bool) {n k : Nat} (hn : n ≤ 2 ^ 53) (hk : k ≤ 1000) : ∃ c q, Core.roundRatio Core.b64 s n 1 (-(k : Int)) = .fin s c q ∧ n * 2 ^ (-(q + k)).toNat = c * 2 ^ (q + k).toNat := by
  by_cases h0 : n = 0
  · subst h0
    exact ⟨0, Core.b64.qmin, rfl, by simp⟩
  · obtain ⟨c', q', hfit, hv⟩ := Core.natFit Core.good_b64 Core.wide_b64 s (n := n) hn
    obtain ⟨f1, f2, f3, f4⟩ := hfit
    have e53 : 2 ^ Core.b64.p = 9007199254740992 := by decide
    have hmin : Core.b64.qmin = -1074 := by decide
    rw [e53] at f1
    rw [Nat.mul_one] at hv
    have hq : -53 < q' := by
      refine Int.lt_of_not_ge fun hle => ?_
      rw [show (q' - 0).toNat = 0 by omega, Nat.pow_zero, Nat.mul_one] at hv
      have h1 : 2 ^ 53 ≤ 2 ^ (0 - q').toNat := Nat.pow_le_pow_right (by decide) (by omega)
      have h2 : 1 * 2 ^ (0 - q').toNat ≤ n * 2 ^ (0 - q').toNat := Nat.mul_le_mul_right _ (by omega)
      have h3 : (2 : Nat) ^ 53 = 9007199254740992 := by decide
      omega
    have ht : Core.b64.tails ≤ c' := f4.resolve_left (by omega)
    have hfit' : Core.fits Core.b64 (.fin s c' (q' - k)) := ⟨by rw [e53]; exact f1, by omega, by omega, Or.inr ht⟩
    refine ⟨c', q' - k, Core.roundRatio_exact Core.good_b64 (by decide) hfit' ?_, ?_⟩
    · rw [Nat.mul_one, show (-(k : Int) - (q' - k)).toNat = (0 - q').toNat by omega, show (q' - k - -(k : Int)).toNat = (q' - 0).toNat by omega]
      exact hv
    · rw [show (-(q' - (k : Int) + k)).toNat = (0 - q').toNat by omega, show (q' - (k : Int) + k).toNat = (q' - 0).toNat by omega]
      exact hv
theorem whole_ratio (s : Bool) {i : Int} {k : Nat} (hs : Core.signed s i.natAbs = i) (hi : i.natAbs ≤ 2 ^ 53) (hk : k ≤ 1000) : Core.Whole i (sh k (Core.roundRatio Core.b64 s i.natAbs 1 (-(k : Int)))) := by
  obtain ⟨c, q, e, hv⟩ := ratio_exact s hi hk
  rw [e]
  show Core.signed s (c * 2 ^ (q + (k : Int)).toNat) = i * ((2 ^ (-(q + (k : Int))).toNat : Nat) : Int)
  rw [← hv, Core.signed_mul, hs]
/-- what i / 2^k rounds to -/
theorem round_eq {i : Int} {k : Nat} {s : Bool} {c : Nat} {q : Int} (h : Core.Whole i (sh k (.fin s c q))) : Core.round Core.b64 (.fin s c q) = Core.roundRatio Core.b64 s i.natAbs 1 (-(k : Int)) := by
  refine Core.roundRatio_congr (by decide) (by decide) ?_
  have h1 := Core.whole_natAbs (show Core.Whole i (.fin s c (q + (k : Int))) from h)
  rw [show (q - -(k : Int)).toNat = (q + (k : Int)).toNat by omega, show (-(k : Int) - q).toNat = (-(q + (k : Int))).toNat by omega, Nat.mul_one, Nat.mul_one]
  exact h1
theorem round_dy {i : Int} {k : Nat} {d : Core.Datum} (h : Core.Whole i (sh k d)) (hi : i.natAbs ≤ 2 ^ 53) (hk : k ≤ 1000) : Core.Whole i (sh k (Core.round Core.b64 d)) := by
  cases d with
  | nan => exact h.elim
  | inf => exact h.elim
  | fin s c q =>
    rw [round_eq h]
    exact whole_ratio s (sgn_whole (show Core.Whole i (.fin s c (q + (k : Int))) from h)) hi hk
theorem Dy.shape {i : Int} {k : Nat} {u : UInt64} (h : Dy i k u) : ∃ s c q, Core.val64 u = .fin s c q := by
  unfold Dy at h
  cases e : Core.val64 u with
  | nan => rw [e] at h; exact h.elim
  | inf s => rw [e] at h; exact h.elim
  | fin s c q => exact ⟨s, c, q, rfl⟩
theorem Dy.ne_nan {i : Int} {k : Nat} {u : UInt64} (h : Dy i k u) : Core.val64 u ≠ .nan := by
  obtain ⟨s, c, q, e⟩ := h.shape
  rw [e]; exact nofun
theorem Dy.noNaN {i : Int} {k : Nat} {u : UInt64} (h : Dy i k u) : NoNaN64 u := val64_no.mpr h.ne_nan
theorem Dy.of_int {i : Int} {u : UInt64} (h : Core.DInt i u) : Dy i 0 u := by
  unfold Dy; rw [sh_zero]; exact h
theorem Dy.add {i j : Int} {k : Nat} {a b : UInt64} (ha : Dy i k a) (hb : Dy j k b) (h : (i + j).natAbs ≤ 2 ^ 53) (hk : k ≤ 1000) : Dy (i + j) k (FP.dadd a b) := by
  unfold Dy
  rw [show Core.val64 (FP.dadd a b) = _ from Core.val64_dadd a b]
  exact round_dy (by rw [← sh_sum]; exact Core.whole_sum ha hb) h hk
theorem Dy.sub {i j : Int} {k : Nat} {a b : UInt64} (ha : Dy i k a) (hb : Dy j k b) (h : (i - j).natAbs ≤ 2 ^ 53) (hk : k ≤ 1000) : Dy (i - j) k (FP.dsub a b) := by
  unfold Dy
  rw [show Core.val64 (FP.dsub a b) = _ from Core.val64_dsub a b]
  exact round_dy (by rw [← sh_sum, ← sh_neg]; exact Core.whole_sum ha (Core.whole_negate hb)) h hk
theorem Dy.mul {i j : Int} {k l : Nat} {a b : UInt64} (ha : Dy i k a) (hb : Dy j l b) (h : (i * j).natAbs ≤ 2 ^ 53) (hk : k + l ≤ 1000) : Dy (i * j) (k + l) (FP.dmul a b) := by
  unfold Dy
  rw [show Core.val64 (FP.dmul a b) = _ from Core.val64_dmul a b]
  exact round_dy (by rw [Int.natCast_add, ← sh_prod]; exact Core.whole_product ha hb) h hk
theorem Dy.cmp {i j : Int} {k : Nat} {a b : UInt64} (ha : Dy i k a) (hb : Dy j k b) : FP.dcmp a b = some (compare i j) := by
  show Core.order (Core.val64 a) (Core.val64 b) = _
  rw [← sh_order k]
  exact Core.order_whole ha hb
theorem Dy.scale {i : Int} {k : Nat} {a : UInt64} (ha : Dy i k a) (j : Nat) : Dy (i * (2 ^ j : Nat)) (k + j) a := by
  obtain ⟨s, c, q, e⟩ := ha.shape
  unfold Dy at ha ⊢
  rw [e] at ha ⊢
  have h1 : Core.Whole ((2 ^ j : Nat) : Int) (.fin false 1 (j : Int)) := by
    show Core.signed false (1 * 2 ^ ((j : Int)).toNat) = ((2 ^ j : Nat) : Int) * ((2 ^ (-(j : Int)).toNat : Nat) : Int)
    rw [show (-(j : Int)).toNat = 0 by omega, show ((j : Int)).toNat = j by omega]
    simp [Core.signed]
  have h2 := Core.whole_product ha h1
  have e2 : Core.exactProduct (sh k (.fin s c q)) (.fin false 1 (j : Int)) = sh ((k + j : Nat) : Int) (.fin s c q) := by
    show Core.Datum.fin (s != false) (c * 1) (q + (k : Int) + (j : Int)) = Core.Datum.fin s c (q + ((k + j : Nat) : Int))
    rw [Nat.mul_one, show (s != false) = s by cases s <;> rfl, show q + (k : Int) + (j : Int) = q + ((k + j : Nat) : Int) by omega]
  rw [e2] at h2
  exact h2
theorem whole_unscale {i : Int} {s : Bool} {c j : Nat} {q : Int} (h : Core.Whole (i * ((2 ^ j : Nat) : Int)) (.fin s c (q + (j : Int)))) : Core.Whole i (.fin s c q) := by
  have h1 : Core.signed s (c * 2 ^ (q + (j : Int)).toNat) = i * ((2 ^ j : Nat) : Int) * ((2 ^ (-(q + (j : Int))).toNat : Nat) : Int) := h
  show Core.signed s (c * 2 ^ q.toNat) = i * ((2 ^ (-q).toNat : Nat) : Int)
  have p2 : ((2 ^ j * 2 ^ (-(q + (j : Int))).toNat : Nat) : Int) ≠ 0 := by
    have := Nat.mul_pos (Nat.two_pow_pos j) (Nat.two_pow_pos (-(q + (j : Int))).toNat); omega
  refine Int.eq_of_mul_eq_mul_right p2 ?_
  have hx : q.toNat + (j + (-(q + (j : Int))).toNat) = (q + (j : Int)).toNat + (-q).toNat := by omega
  calc Core.signed s (c * 2 ^ q.toNat) * ((2 ^ j * 2 ^ (-(q + (j : Int))).toNat : Nat) : Int)
      = Core.signed s (c * 2 ^ (q.toNat + (j + (-(q + (j : Int))).toNat))) := by
        rw [← Core.signed_mul, Nat.pow_add 2 q.toNat, Nat.pow_add 2 j, Nat.mul_assoc c]
    _ = Core.signed s (c * 2 ^ (q + (j : Int)).toNat * 2 ^ (-q).toNat) := by rw [hx, Nat.pow_add, Nat.mul_assoc c]
    _ = i * ((2 ^ j : Nat) : Int) * ((2 ^ (-(q + (j : Int))).toNat : Nat) : Int) * ((2 ^ (-q).toNat : Nat) : Int) := by rw [Core.signed_mul, h1]
    _ = i * ((2 ^ (-q).toNat : Nat) : Int) * ((2 ^ j * 2 ^ (-(q + (j : Int))).toNat : Nat) : Int) := by rw [Int.natCast_mul]; ac_rfl
theorem sh_unscale {i : Int} {k j : Nat} {d : Core.Datum} (h : Core.Whole (i * ((2 ^ j : Nat) : Int)) (sh ((k + j : Nat) : Int) d)) : Core.Whole i (sh k d) := by
  cases d with
  | nan => exact h.elim
  | inf => exact h.elim
  | fin s c q =>
    refine whole_unscale (j := j) ?_
    have e : q + ((k + j : Nat) : Int) = q + (k : Int) + (j : Int) := by omega
    have h' : Core.Whole (i * ((2 ^ j : Nat) : Int)) (.fin s c (q + ((k + j : Nat) : Int))) := h
    rw [e] at h'; exact h'
theorem Dy.unscale {i : Int} {k j : Nat} {u : UInt64} (h : Dy (i * ((2 ^ j : Nat) : Int)) (k + j) u) : Dy i k u := sh_unscale h
theorem Dy.mulTo {i j n : Int} {k l r t : Nat} {a b : UInt64} (ha : Dy i k a) (hb : Dy j l b) (hn : i * j = n * ((2 ^ t : Nat) : Int)) (hr : k + l = r + t) (h : n.natAbs ≤ 2 ^ 53) (hk : r ≤ 1000) : Dy n r (FP.dmul a b) := by
  unfold Dy
  rw [show Core.val64 (FP.dmul a b) = _ from Core.val64_dmul a b]
  refine round_dy (sh_unscale (j := t) ?_) h hk
  have h1 := Core.whole_product ha hb
  rw [sh_prod, hn, ← Int.natCast_add, hr] at h1
  exact h1
theorem Dy.cast {i i' : Int} {k k' : Nat} {a : UInt64} (ha : Dy i k a) (hi : i = i') (hk : k = k') : Dy i' k' a := by subst hi hk; exact ha
theorem Dy.unique {i : Int} {k : Nat} {a b : UInt64} (ha : Dy i k a) (hb : Dy i k b) (hi : i ≠ 0) : a = b := by
  obtain ⟨s, c, q, e⟩ := ha.shape
  obtain ⟨t, d, r, e'⟩ := hb.shape
  refine Core.val64_inj ha.ne_nan ?_
  have f1 := Core.round_of_fits Core.good_b64 (Core.val64_fits a)
  have f2 := Core.round_of_fits Core.good_b64 (Core.val64_fits b)
  have ha' := ha; have hb' := hb
  unfold Dy at ha' hb'
  rw [e] at ha' f1; rw [e'] at hb' f2
  rw [e, e', ← f1, ← f2, round_eq ha', round_eq hb', Core.whole_sign (show Core.Whole i (.fin s c (q + (k : Int))) from ha') hi, Core.whole_sign (show Core.Whole i (.fin t d (r + (k : Int))) from hb') hi]
/-- the quotient of two dyadics, the divisor positive, is the ratio rounded -/
theorem div_val {i j : Int} {k : Nat} {a b : UInt64} (ha : Dy i k a) (hb : Dy j 0 b) (hj : 0 < j) : ∃ s, Core.signed s i.natAbs = i ∧ Core.val64 (FP.ddiv a b) = Core.roundRatio Core.b64 s i.natAbs j.natAbs (-(k : Int)) := by
  obtain ⟨s, c, q, e⟩ := ha.shape
  obtain ⟨t, d, r, e'⟩ := hb.shape
  have ha' := ha; have hb' := hb
  unfold Dy at ha' hb'
  rw [e] at ha'; rw [e', sh_zero] at hb'
  have ha2 : Core.Whole i (.fin s c (q + (k : Int))) := ha'
  have ht : t = false := by rw [Core.whole_sign hb' (by omega)]; simp; omega
  have hd : d ≠ 0 := fun hd => by have := (Core.whole_zero hb').mp hd; omega
  refine ⟨s, sgn_whole ha2, ?_⟩
  rw [show Core.val64 (FP.ddiv a b) = _ from Core.val64_ddiv a b, e, e']
  show (if d = 0 then (if c = 0 then Core.Datum.nan else .inf (s != t)) else Core.roundRatio Core.b64 (s != t) c d (q - r)) = _
  rw [if_neg hd, ht, show (s != false) = s by cases s <;> rfl]
  refine Core.roundRatio_congr (by omega) (by omega) ?_
  have h1 := Core.whole_natAbs ha2
  have h2 := Core.whole_natAbs hb'
  rw [show (q - r - -(k : Int)) = (q + (k : Int)) - r by omega, show (-(k : Int) - (q - r)) = r - (q + (k : Int)) by omega]
  generalize q + (k : Int) = A at h1 ⊢
  generalize i.natAbs = I at h1 ⊢
  generalize j.natAbs = J at h2 ⊢
  refine Nat.eq_of_mul_eq_mul_right (Nat.mul_pos (Nat.two_pow_pos (-A).toNat) (Nat.two_pow_pos r.toNat)) ?_
  have hx : (A - r).toNat + ((-A).toNat + r.toNat) = A.toNat + (-r).toNat + (r - A).toNat := by omega
  calc c * J * 2 ^ (A - r).toNat * (2 ^ (-A).toNat * 2 ^ r.toNat)
      = c * J * 2 ^ ((A - r).toNat + ((-A).toNat + r.toNat)) := by rw [Nat.pow_add, Nat.pow_add]; ac_rfl
    _ = (c * 2 ^ A.toNat) * (J * 2 ^ (-r).toNat) * 2 ^ (r - A).toNat := by rw [hx, Nat.pow_add, Nat.pow_add]; ac_rfl
    _ = (I * 2 ^ (-A).toNat) * (d * 2 ^ r.toNat) * 2 ^ (r - A).toNat := by rw [h1, h2]
    _ = I * d * 2 ^ (r - A).toNat * (2 ^ (-A).toNat * 2 ^ r.toNat) := by ac_rfl
theorem Dy.div {i j m : Int} {k : Nat} {a b : UInt64} (ha : Dy i k a) (hb : Dy j 0 b) (hj : 0 < j) (hm : i = m * j) (h : m.natAbs ≤ 2 ^ 53) (hk : k ≤ 1000) : Dy m k (FP.ddiv a b) := by
  obtain ⟨s, hs, e⟩ := div_val ha hb hj
  unfold Dy
  have hn : i.natAbs = m.natAbs * j.natAbs := by rw [hm, Int.natAbs_mul]
  have e2 : Core.roundRatio Core.b64 s i.natAbs j.natAbs (-(k : Int)) = Core.roundRatio Core.b64 s m.natAbs 1 (-(k : Int)) := by
    refine Core.roundRatio_congr (by omega) (by decide) ?_
    rw [hn, Nat.mul_one]
  rw [e, e2]
  refine whole_ratio s ?_ h hk
  have h3 : Core.signed s i.natAbs = Core.signed s m.natAbs * j := by
    rw [hn, Core.signed_mul, show ((j.natAbs : Nat) : Int) = j by omega]
  rw [hs, hm] at h3
  exact (Int.eq_of_mul_eq_mul_right (by omega) h3).symm
/-- equal ratios, equally rounded -/
theorem div_cmp_eq {i j i' j' : Int} {k k' : Nat} {a b a' b' : UInt64} (ha : Dy i k a) (hb : Dy j 0 b) (hj : 0 < j) (ha' : Dy i' k' a') (hb' : Dy j' 0 b') (hj' : 0 < j') (hk : k ≤ 1000) (hk' : k' ≤ 1000)
    (h : i * j' * (2 ^ k' : Nat) = i' * j * (2 ^ k : Nat)) : FP.dcmp (FP.ddiv a b) (FP.ddiv a' b') = some .eq := by
  by_cases hi : i = 0
  · subst hi
    have hi' : i' = 0 := by
      rw [Int.zero_mul, Int.zero_mul] at h
      have p1 : ((2 ^ k : Nat) : Int) ≠ 0 := by have := Nat.two_pow_pos k; omega
      rcases Int.mul_eq_zero.mp h.symm with q | q
      · rcases Int.mul_eq_zero.mp q with q | q
        · exact q
        · omega
      · exact absurd q p1
    subst hi'
    have d1 := (ha.div hb hj (m := 0) (by omega) (by decide) hk).scale k'
    have d2 := (ha'.div hb' hj' (m := 0) (by omega) (by decide) hk').scale k
    have e2 : k' + k = k + k' := by omega
    rw [Dy.cmp d1 (d2.cast rfl e2)]
    simp [Core.compare_self_int]
  · obtain ⟨s, hs, e⟩ := div_val ha hb hj
    obtain ⟨s', hs', e'⟩ := div_val ha' hb' hj'
    have n1 := congrArg Int.natAbs h
    rw [Int.natAbs_mul, Int.natAbs_mul, Int.natAbs_mul, Int.natAbs_mul, Int.natAbs_natCast, Int.natAbs_natCast] at n1
    have p1 : (0 : Int) < ((2 ^ k : Nat) : Int) := by have := Nat.two_pow_pos k; omega
    have p2 : (0 : Int) < ((2 ^ k' : Nat) : Int) := by have := Nat.two_pow_pos k'; omega
    have hss : s = s' := by
      have q1 : (0 < i ↔ 0 < i') := by
        have a1 : (0 < i * j' * ((2 ^ k' : Nat) : Int)) ↔ 0 < i := by
          rw [Int.mul_assoc]; exact mpos (Int.mul_pos hj' p2)
        have a2 : (0 < i' * j * ((2 ^ k : Nat) : Int)) ↔ 0 < i' := by
          rw [Int.mul_assoc]; exact mpos (Int.mul_pos hj p1)
        rw [← a1, ← a2, h]
      have hi' : i' ≠ 0 := fun z => by
        rw [z, Int.zero_mul, Int.zero_mul] at h
        rcases Int.mul_eq_zero.mp h with q | q
        · rcases Int.mul_eq_zero.mp q with q | q
          · exact hi q
          · omega
        · omega
      unfold Core.signed at hs hs'
      cases s <;> cases s' <;> simp at hs hs' ⊢ <;> omega
    have ev : Core.val64 (FP.ddiv a b) = Core.val64 (FP.ddiv a' b') := by
      rw [e, e', hss]
      refine Core.roundRatio_congr (by omega) (by omega) ?_
      rcases Nat.le_total k k' with q | q
      · obtain ⟨z, rfl⟩ : ∃ z, k' = k + z := ⟨k' - k, by omega⟩
        rw [show (-(k : Int) - -((k + z : Nat) : Int)).toNat = z by omega, show (-((k + z : Nat) : Int) - -(k : Int)).toNat = 0 by omega, Nat.pow_zero, Nat.mul_one]
        rw [Nat.pow_add] at n1
        refine Nat.eq_of_mul_eq_mul_right (Nat.two_pow_pos k) ?_
        rw [← n1]; ac_rfl
      · obtain ⟨z, rfl⟩ : ∃ z, k = k' + z := ⟨k - k', by omega⟩
        rw [show (-((k' + z : Nat) : Int) - -(k' : Int)).toNat = 0 by omega, show (-(k' : Int) - -((k' + z : Nat) : Int)).toNat = z by omega, Nat.pow_zero, Nat.mul_one]
        rw [Nat.pow_add] at n1
        refine Nat.eq_of_mul_eq_mul_right (Nat.two_pow_pos k') ?_
        rw [n1]; ac_rfl
    have nn : Core.val64 (FP.ddiv a b) ≠ .nan := by rw [e]; exact Core.roundRatio_ne_nan _ _ _ _ _
    show Core.order (Core.val64 (FP.ddiv a b)) (Core.val64 (FP.ddiv a' b')) = _
    rw [← ev]
    exact Core.order_self nn
theorem div_noNaN {i j : Int} {k : Nat} {a b : UInt64} (ha : Dy i k a) (hb : Dy j 0 b) (hj : 0 < j) : NoNaN64 (FP.ddiv a b) := by
  obtain ⟨s, hs, e⟩ := div_val ha hb hj
  exact val64_no.mpr (by rw [e]; exact Core.roundRatio_ne_nan _ _ _ _ _)
/-- what dcmpl and dcmpg push -/
theorem cmpV_of (i j : Int) (o : ClassFile.CmpOp) : Op.cmpValue (some (compare i j)) o = if i < j then -1 else if i = j then 0 else 1 := by
  rw [Core.compare_ite]
  by_cases h1 : i < j
  · rw [if_pos h1, if_pos h1]; cases o <;> rfl
  · rw [if_neg h1, if_neg h1]
    by_cases h2 : i = j
    · rw [if_pos h2, if_pos h2]; cases o <;> rfl
    · rw [if_neg h2, if_neg h2]; cases o <;> rfl
theorem Dy.cmpV {i j : Int} {k : Nat} {a b : UInt64} (ha : Dy i k a) (hb : Dy j k b) (o : ClassFile.CmpOp) : Op.cmpValue (FP.dcmp a b) o = if i < j then -1 else if i = j then 0 else 1 := by
  rw [Dy.cmp ha hb]; exact cmpV_of i j o
theorem dy_zero : Dy 0 0 FP.dconst0 := by
  unfold Dy; rw [sh_zero, show Core.val64 FP.dconst0 = .fin false 0 Core.b64.qmin from Core.val64_dconst0]
  show Core.signed false (0 * _) = 0 * _
  rw [Nat.zero_mul, Int.zero_mul]; rfl
theorem dy_one : Dy 1 0 FP.dconst1 := by
  unfold Dy; rw [sh_zero, show Core.val64 FP.dconst1 = .fin false (2 ^ 52) (-52) from Core.val64_dconst1]
  show Core.signed false (2 ^ 52 * 2 ^ (-52 : Int).toNat) = 1 * ((2 ^ (-(-52 : Int)).toNat : Nat) : Int)
  decide
theorem Dy.of_bits {u : UInt64} {c : Nat} {q : Int} {i : Int} {k : Nat} (h : Core.val64 u = .fin false c q) (hi : ((c * 2 ^ (q + k).toNat : Nat) : Int) = i * ((2 ^ (-(q + k)).toNat : Nat) : Int)) : Dy i k u := by
  unfold Dy; rw [h]; exact hi
theorem Dy.maxz {i : Int} {u : UInt64} (h : Dy i 0 u) : Dy (max i 0) 0 (Jvm.Native.java_lang_Math.nans.pick64 true u FP.dconst0) := by
  have e := Dy.cmp h dy_zero
  unfold Jvm.Native.java_lang_Math.nans.pick64
  rw [e, Core.compare_ite]
  by_cases h1 : i < 0
  · rw [if_pos h1]; exact dy_zero.cast (by omega) rfl
  · rw [if_neg h1]
    by_cases h2 : i = 0
    · rw [if_pos h2]
      show Dy (max i 0) 0 (if ((u >>> 63 == 1) == true) = true then FP.dconst0 else u)
      split
      · exact dy_zero.cast (by omega) rfl
      · exact h.cast (by omega) rfl
    · rw [if_neg h2]; exact h.cast (by omega) rfl
theorem Dy.i2d (x : Int32) : Dy x.toInt 0 (FP.i2d x) := Dy.of_int (Core.i2d_int x)
theorem Dy.l2d {x : Int64} (h : x.toInt.natAbs ≤ 2 ^ 53) : Dy x.toInt 0 (FP.l2d x) := Dy.of_int (Core.l2d_int h)
end Jvm.OwnF
namespace Jvm.OwnF
open Sem ClassFile Op Lib Jvm.Stand Jvm.Free Jvm.LawKit Jvm.RoadKit
/-! Gar Z h a ty N f: at a there is an array of ty, N long, with f i at every place i < N. -/
def Gar (Z : State) (h : Heap) (a : Addr) (ty : FieldType) (N : Nat) (f : Nat → Value) : Prop := ∃ c : Cell, Arr Z h a c ty ∧ c.slots.size = N ∧ ∀ i, i < N → c.slots[i]? = some (f i)
section
variable {Z : State} {h h' : Heap} {a b : Addr} {ty : FieldType} {N : Nat} {f g : Nat → Value} {sl : Nat} {v : Value} {ws : List Addr}
theorem Gar.lt (F : Gar Z h a ty N f) : a < h.size := by obtain ⟨c, A, -⟩ := F; exact A.lt
theorem Gar.ext (F : Gar Z h a ty N f) (E : Ext h h') : Gar Z h' a ty N f := by obtain ⟨c, A, r⟩ := F; exact ⟨c, A.ext E, r⟩
theorem Gar.other (F : Gar Z h b ty N f) (W : Wr h h' a sl v) (q : b ≠ a) : Gar Z h' b ty N f := by obtain ⟨c, A, r⟩ := F; exact ⟨c, A.other W q, r⟩
theorem Gar.keep (F : Gar Z h a ty N f) (K : Keep h h' ws) (q : a ∉ ws) : Gar Z h' a ty N f := by obtain ⟨c, A, r⟩ := F; exact ⟨c, ⟨K.2.1 a c A.1 q, A.2⟩, r⟩
theorem Gar.congr (F : Gar Z h a ty N f) (q : ∀ i, i < N → f i = g i) : Gar Z h a ty N g := by obtain ⟨c, A, S, H⟩ := F; exact ⟨c, A, S, fun i hi => by rw [H i hi, q i hi]⟩
theorem Gar.len (F : Gar Z h a ty N f) {M : Nat} (q : N = M) : Gar Z h a ty M f := q ▸ F
theorem Gar.new {k : ClassId} {z : Int32} (A : Arr Z h a (newA k ty z) ty) : Gar Z h a ty z.toNatClampNeg (fun _ => defaultValue ty) :=
  ⟨_, A, sz_new _ _ _, fun i hi => by simp [newA, hi]⟩
theorem Gar.set (F : Gar Z h a ty N f) (W : Wr h h' a sl v) : Gar Z h' a ty N (fun i => if i = sl then v else f i) := by
  obtain ⟨c, A, S, H⟩ := F
  obtain ⟨c', q1, q2, q3, q4, q5, q6, q7⟩ := wr_at W A.1
  obtain ⟨r1, r2, r3⟩ := q7 rfl
  have A' := Arr.same W A
  have e : c' = c.setSlot sl v := r1
  refine ⟨c', by rw [e]; exact A', by rw [q4]; exact S, fun i hi => ?_⟩
  show c'.slots[i]? = some (if i = sl then v else f i)
  by_cases z : i = sl
  · rw [if_pos z, z]; exact r2
  · rw [if_neg z, q6 i z]; exact H i hi
theorem Gar.ne {N' : Nat} {f' : Nat → Value} {ty' : FieldType} (F : Gar Z h a ty N f) (G : Gar Z h b ty' N' f') (q : N ≠ N') : a ≠ b := fun e => by
  obtain ⟨c, A, S, -⟩ := F
  obtain ⟨c', A', S', -⟩ := G
  subst e
  have := A.1.symm.trans A'.1
  cases this
  omega
end
section
variable {p : Program} {l : Launch} {e : Env} {R : Room} {s : State} {m : MethodId} {args : Array Value} {below : List Frame} {meth : Method} {c : Code} {T : State} {locs : List Loc} {cells slots : Nat} {Z : State} {h : Heap} {a : Addr} {N : Nat} {f : Nat → Value}
theorem in_of {c : Cell} {j : Int32} (S : c.slots.size = N) (hj : ¬ j < 0) (hN : j.toNatClampNeg < N) : ¬ (j < 0 ∨ c.slots.size ≤ j.toNatClampNeg) := fun q => q.elim hj fun z => by omega
theorem ldD (X : Stand p l e R s m args below meth c T locs cells slots) (hx : p.tables.exec = Jvm.exec) (hZ : Z.Warmed39 s.vm) (eT : T.heap = h) (A : Gar Z h a .double N f) {j : Int32} (hj : ¬ j < 0) (hN : j.toNatClampNeg < N) {v : Value} (hv : f j.toNatClampNeg = v) {g : JFrame} (hg : g.method = m) {rest : List Value} (hs : g.stack = .int j :: .ref a :: rest) (hd : decode c.code g.pc = .ok (.daload, 1)) (target : State)
    (hr : Steps p.tables e below (T.setTop { g with pc := g.pc + 1, stack := v :: rest }) target) : Steps p.tables e below (T.setTop g) target := by
  obtain ⟨cl, Ar, S, H⟩ := A
  exact X.daload hx (by rw [eT]; exact Ar.1) (State.isArrayOf_alike hZ.alike Ar.2.1) Ar.2.2 (in_of S hj hN) (by rw [H _ hN, hv]) hg hs hd target hr
theorem ldI (X : Stand p l e R s m args below meth c T locs cells slots) (hx : p.tables.exec = Jvm.exec) (hZ : Z.Warmed39 s.vm) (eT : T.heap = h) (A : Gar Z h a .int N f) {j : Int32} (hj : ¬ j < 0) (hN : j.toNatClampNeg < N) {v : Value} (hv : f j.toNatClampNeg = v) {g : JFrame} (hg : g.method = m) {rest : List Value} (hs : g.stack = .int j :: .ref a :: rest) (hd : decode c.code g.pc = .ok (.iaload, 1)) (target : State)
    (hr : Steps p.tables e below (T.setTop { g with pc := g.pc + 1, stack := v :: rest }) target) : Steps p.tables e below (T.setTop g) target := by
  obtain ⟨cl, Ar, S, H⟩ := A
  exact X.iaload hx (by rw [eT]; exact Ar.1) (State.isArrayOf_alike hZ.alike Ar.2.1) Ar.2.2 (in_of S hj hN) (by rw [H _ hN, hv]) hg hs hd target hr
theorem lnG {ty : FieldType} (X : Stand p l e R s m args below meth c T locs cells slots) (hx : p.tables.exec = Jvm.exec) (hZ : Z.Warmed39 s.vm) (eT : T.heap = h) (A : Gar Z h a ty N f) {z : Int32} (hz : N.toInt32 = z) {g : JFrame} (hg : g.method = m) {rest : List Value} (hs : g.stack = .ref a :: rest) (hd : decode c.code g.pc = .ok (.arraylength, 1)) (target : State)
    (hr : Steps p.tables e below (T.setTop { g with pc := g.pc + 1, stack := .int z :: rest }) target) : Steps p.tables e below (T.setTop g) target := by
  obtain ⟨cl, Ar, S, H⟩ := A
  refine X.arraylength hx (by rw [eT]; exact Ar.1) (State.isArrayOf_alike hZ.alike Ar.2.1) hg hs hd target ?_
  rw [S, hz]; exact hr
theorem stDG (X : Stand p l e R s m args below meth c T locs cells slots) (hx : p.tables.exec = Jvm.exec) (hZ : Z.Warmed39 s.vm) (eT : T.heap = h) (A : Gar Z h a .double N f) {j : Int32} {x : UInt64} (hj : ¬ j < 0) (hN : j.toNatClampNeg < N) {g : JFrame} (hg : g.method = m) {rest : List Value} (hs : g.stack = .double x :: .int j :: .ref a :: rest) (hd : decode c.code g.pc = .ok (.dastore, 1)) :
    ∃ T' h', Stand p l e R s m args below meth c T' (locs ++ [⟨a, j.toNatClampNeg⟩]) cells slots ∧ T'.heap = h' ∧ Wr h h' a j.toNatClampNeg (.double x) ∧ ∀ target, Steps p.tables e below (T'.setTop { g with pc := g.pc + 1, stack := rest }) target → Steps p.tables e below (T.setTop g) target := by
  obtain ⟨cl, Ar, S, H⟩ := A
  exact stD X hx hZ eT Ar (in_of S hj hN) hg hs hd
theorem stIG (X : Stand p l e R s m args below meth c T locs cells slots) (hx : p.tables.exec = Jvm.exec) (hZ : Z.Warmed39 s.vm) (eT : T.heap = h) (A : Gar Z h a .int N f) {j : Int32} {x : Int32} (hj : ¬ j < 0) (hN : j.toNatClampNeg < N) {g : JFrame} (hg : g.method = m) {rest : List Value} (hs : g.stack = .int x :: .int j :: .ref a :: rest) (hd : decode c.code g.pc = .ok (.iastore, 1)) :
    ∃ T' h', Stand p l e R s m args below meth c T' (locs ++ [⟨a, j.toNatClampNeg⟩]) cells slots ∧ T'.heap = h' ∧ Wr h h' a j.toNatClampNeg (.int x) ∧ ∀ target, Steps p.tables e below (T'.setTop { g with pc := g.pc + 1, stack := rest }) target → Steps p.tables e below (T.setTop g) target := by
  obtain ⟨cl, Ar, S, H⟩ := A
  exact stI X hx hZ eT Ar (in_of S hj hN) hg hs hd
theorem clG {ty : FieldType} (X : Stand p l e R s m args below meth c T locs cells slots) (hx : p.tables.exec = Jvm.exec) (hZ : Z.Warmed39 s.vm) {a0 : Array Value} {own ad : String} {index : Nat} (hown : s.vm.findClass own = some m.cls)
    (w1 : (Cond.methodLink own index ⟨ad, "clone", "()Ljava/lang/Object;"⟩).before a0 Z = true) (w2 : (Cond.sameMethod ad "java/lang/Object" "clone" "()Ljava/lang/Object;").before a0 Z = true) (w3 : (Cond.native ⟨"java/lang/Object", "clone", "()Ljava/lang/Object;"⟩).before a0 Z = true)
    (w4 : (Cond.instanceMethod ⟨"java/lang/Object", "clone", "()Ljava/lang/Object;"⟩).before a0 Z = true) (w5 : (Cond.selects ad ⟨ad, "clone", "()Ljava/lang/Object;"⟩ ⟨"java/lang/Object", "clone", "()Ljava/lang/Object;"⟩).before a0 Z = true) (w6 : (Cond.castable ad "java/lang/Cloneable").before a0 Z = true)
    (eT : T.heap = h) (A : Gar Z h a ty N f) (E : Exa Z h a ad) (hfit : ∀ i, i < N → fits ty (f i) = true) {g : JFrame} (hg : g.method = m) (hsize : g.locals.size = c.maxLocals) {rest : List Value} (hst : g.stack = .ref a :: rest) (hd : decode c.code g.pc = .ok (.invokevirtual index, 3))
    (hf : 1 ≤ R.frames) {W cap : Nat} (hW : 2 * g.monitorRoom + (rest.map fun v => v.category).sum ≤ W) (hl : W + 14 ≤ R.locals) (hcap : N ≤ cap) (hc : cells + 1 ≤ R.cells) (hsl : slots + cap ≤ R.slots) :
    ∃ T' h', Stand p l e R s m args below meth c T' locs (cells + 1) (slots + cap) ∧ T'.heap = h' ∧ Ext h h' ∧ Gar Z h' h.size ty N f ∧ Exa Z h' h.size ad ∧
      ∀ target, Steps p.tables e below (T'.setTop { g with pc := g.pc + 3, stack := .ref h.size :: rest }) target → Steps p.tables e below (T.setTop g) target := by
  obtain ⟨cl, Ar, S, H⟩ := A
  have FC : FitC Z cl := fitC_of Ar fun i hi v hv => by rw [H i (by omega)] at hv; cases hv; exact hfit i (by omega)
  obtain ⟨T', h', X', e', ex, A', E', st⟩ := cloneA X hx hZ hown w1 w2 w3 w4 w5 w6 eT Ar E FC hg hsize hst hd hf hW hl (by rw [S]; exact hcap) hc hsl
  exact ⟨T', h', X', e', ex, ⟨cloneOf cl, A', S, H⟩, E', st⟩
end
end Jvm.OwnF
namespace Jvm.RoadKit
open Sem ClassFile Op Lib Jvm.Stand Jvm.Free Jvm.LawKit
section New
variable {p : Program} {l : Launch} {e : Env} {R : Room} {s : State} {m : MethodId} {args : Array Value} {below : List Frame} {meth : Method} {c : Code} {T : State} {locs : List Loc} {cells slots : Nat}
theorem retI (X : Stand p l e R s m args below meth c T locs cells slots) (hx : p.tables.exec = Jvm.exec) {pc : Nat} {Ls : Array Slot} {z : Int32} {rest : List Value} (hret : meth.sig.returnType = some .int) (hd : decode c.code pc = .ok (.ireturn, 1)) {fs : List Frame}
    (hl : ∀ (f : JFrame) (acts : List Action), f.method = m → f.locked = none → f.entered = [] → (doReturn e (T.setTop f) acts (some (.int z))).1 = T.setFrames fs) : Steps p.tables e below (T.setTop (mkF m pc Ls (.int z :: rest))) (T.setFrames fs) := by
  have hm' : T.vm.method? m = some meth := X.method'
  have hn : narrow .int (.int z) = .int z := rfl
  show Steps p.tables e below (T.setTop { method := m, pc := pc, locals := Ls, stack := _ :: rest, locked := none }) _
  jvm_step X.here [X.here.top, hx, hd, hm', hret, hn]
  first | (intro acts; rw [hl _ acts rfl rfl rfl]) | rw [hl _ _ rfl rfl rfl]
  exact Steps.refl _
theorem retD (X : Stand p l e R s m args below meth c T locs cells slots) (hx : p.tables.exec = Jvm.exec) {pc : Nat} {Ls : Array Slot} {z : UInt64} {rest : List Value} (hret : meth.sig.returnType = some .double) (hd : decode c.code pc = .ok (.dreturn, 1)) {fs : List Frame}
    (hl : ∀ (f : JFrame) (acts : List Action), f.method = m → f.locked = none → f.entered = [] → (doReturn e (T.setTop f) acts (some (.double z))).1 = T.setFrames fs) : Steps p.tables e below (T.setTop (mkF m pc Ls (.double z :: rest))) (T.setFrames fs) := by
  have hm' : T.vm.method? m = some meth := X.method'
  have hn : narrow .double (.double z) = .double z := rfl
  show Steps p.tables e below (T.setTop { method := m, pc := pc, locals := Ls, stack := _ :: rest, locked := none }) _
  jvm_step X.here [X.here.top, hx, hd, hm', hret, hn]
  first | (intro acts; rw [hl _ acts rfl rfl rfl]) | rw [hl _ _ rfl rfl rfl]
  exact Steps.refl _
theorem retB (X : Stand p l e R s m args below meth c T locs cells slots) (hx : p.tables.exec = Jvm.exec) {pc : Nat} {Ls : Array Slot} {z : Int32} {rest : List Value} (hret : meth.sig.returnType = some .boolean) (hz : z = 0 ∨ z = 1) (hd : decode c.code pc = .ok (.ireturn, 1)) {fs : List Frame}
    (hl : ∀ (f : JFrame) (acts : List Action), f.method = m → f.locked = none → f.entered = [] → (doReturn e (T.setTop f) acts (some (.int z))).1 = T.setFrames fs) : Steps p.tables e below (T.setTop (mkF m pc Ls (.int z :: rest))) (T.setFrames fs) := by
  have q : nar .boolean z = z := by rcases hz with rfl | rfl <;> rfl
  refine retN X hx hret (Or.inl rfl) hd ?_
  rw [q]; exact hl
end New
end Jvm.RoadKit
namespace Jvm.Pilot.@@N@@
open Jvm Jvm.ClassFile Sem Op Lib Jvm.Free Jvm.Stand Jvm.LawKit Jvm.RoadKit Bundle Jvm.Pilot.@@N@@.Jvm.D Jvm.OwnF Jvm.Free.Fl
/-- the object and its four arrays, with the numbers in them (sums in eighths) -/
def PS (Z : State) (h : Heap) (n0 : Nat) (po a1 a2 a3 a4 : Addr) (SD SU CD CU : Nat → Int) (AD AU ND NU : Int) : Prop :=
  ∃ (ds us : Nat → UInt64) (dc uc : Nat → Int32) (ads aus : UInt64) (adc auc : Int64),
    (Exa Z h po "com/example/pivotline/pivotline/Pseudocosts" ∧ Fld Z h po "com/example/pivotline/pivotline/Pseudocosts" "downSum" "[D" (.ref a1) ∧ Fld Z h po "com/example/pivotline/pivotline/Pseudocosts" "upSum" "[D" (.ref a2) ∧ Fld Z h po "com/example/pivotline/pivotline/Pseudocosts" "downCount" "[I" (.ref a3) ∧ Fld Z h po "com/example/pivotline/pivotline/Pseudocosts" "upCount" "[I" (.ref a4) ∧ Fld Z h po "com/example/pivotline/pivotline/Pseudocosts" "allDownSum" "D" (.double ads) ∧ Fld Z h po "com/example/pivotline/pivotline/Pseudocosts" "allUpSum" "D" (.double aus) ∧ Fld Z h po "com/example/pivotline/pivotline/Pseudocosts" "allDownCount" "J" (.long adc) ∧ Fld Z h po "com/example/pivotline/pivotline/Pseudocosts" "allUpCount" "J" (.long auc)) ∧
    (Gar Z h a1 .double 2 (fun i => .double (ds i)) ∧ Gar Z h a2 .double 2 (fun i => .double (us i)) ∧ Gar Z h a3 .int 2 (fun i => .int (dc i)) ∧ Gar Z h a4 .int 2 (fun i => .int (uc i))) ∧
    (n0 ≤ po ∧ n0 ≤ a1 ∧ n0 ≤ a2 ∧ n0 ≤ a3 ∧ n0 ≤ a4) ∧
    (po ≠ a1 ∧ po ≠ a2 ∧ po ≠ a3 ∧ po ≠ a4 ∧ a1 ≠ a2 ∧ a1 ≠ a3 ∧ a1 ≠ a4 ∧ a2 ≠ a3 ∧ a2 ≠ a4 ∧ a3 ≠ a4) ∧
    ((∀ i : Nat, i < 2 → Dy (SD i) 3 (ds i)) ∧ (∀ i : Nat, i < 2 → Dy (SU i) 3 (us i)) ∧ (∀ i : Nat, i < 2 → (dc i).toInt = CD i) ∧ (∀ i : Nat, i < 2 → (uc i).toInt = CU i) ∧ Dy AD 3 ads ∧ Dy AU 3 aus ∧ adc.toInt = ND ∧ auc.toInt = NU)
def upd (f : Nat → Int) (c : Nat) (x : Int) : Nat → Int := fun i => if i = c then f i + x else f i
theorem cl_ok {c : Int32} (h : c = 0 ∨ c = 1) : ¬ c < 0 ∧ c.toNatClampNeg < 2 := by rcases h with rfl | rfl <;> decide
theorem upd_eq (f : Nat → Int) (c : Nat) (x : Int) : upd f c x c = f c + x := if_pos rfl
theorem upd_ne {f : Nat → Int} {c i : Nat} {x : Int} (h : i ≠ c) : upd f c x i = f i := if_neg h
theorem PS.keep {Z : State} {h h' : Heap} {n0 : Nat} {po a1 a2 a3 a4 : Addr} {SD SU CD CU : Nat → Int} {AD AU ND NU : Int} {ws : List Addr} (H : PS Z h n0 po a1 a2 a3 a4 SD SU CD CU AD AU ND NU) (K : Keep h h' ws) (n : po ∉ ws ∧ a1 ∉ ws ∧ a2 ∉ ws ∧ a3 ∉ ws ∧ a4 ∉ ws) : PS Z h' n0 po a1 a2 a3 a4 SD SU CD CU AD AU ND NU := by
  obtain ⟨m0, m1, m2, m3, m4⟩ := n
  obtain ⟨ds, us, dc, uc, ads, aus, adc, auc, ⟨Epo, Fds, Fus, Fdc, Fuc, Fads, Faus, Fadc, Fauc⟩, ⟨Gds, Gus, Gdc, Guc⟩, ⟨g_po, g_a1, g_a2, g_a3, g_a4⟩, ⟨q01, q02, q03, q04, q12, q13, q14, q23, q24, q34⟩, ⟨yds, yus, hdc, huc, yads, yaus, hadc, hauc⟩⟩ := H
  exact ⟨ds, us, dc, uc, ads, aus, adc, auc, ⟨Epo.keep K, Fds.keep K m0, Fus.keep K m0, Fdc.keep K m0, Fuc.keep K m0, Fads.keep K m0, Faus.keep K m0, Fadc.keep K m0, Fauc.keep K m0⟩, ⟨Gds.keep K m1, Gus.keep K m2, Gdc.keep K m3, Guc.keep K m4⟩, ⟨g_po, g_a1, g_a2, g_a3, g_a4⟩, ⟨q01, q02, q03, q04, q12, q13, q14, q23, q24, q34⟩, ⟨yds, yus, hdc, huc, yads, yaus, hadc, hauc⟩⟩
theorem PS.ext {Z : State} {h h' : Heap} {n0 : Nat} {po a1 a2 a3 a4 : Addr} {SD SU CD CU : Nat → Int} {AD AU ND NU : Int} (H : PS Z h n0 po a1 a2 a3 a4 SD SU CD CU AD AU ND NU) (E : Ext h h') : PS Z h' n0 po a1 a2 a3 a4 SD SU CD CU AD AU ND NU := H.keep ((Keep.refl h []).ext E) ⟨nin0, nin0, nin0, nin0, nin0⟩
theorem PS.wr {Z : State} {h h' : Heap} {n0 : Nat} {po a1 a2 a3 a4 b : Addr} {SD SU CD CU : Nat → Int} {AD AU ND NU : Int} {sl : Nat} {v : Value} (H : PS Z h n0 po a1 a2 a3 a4 SD SU CD CU AD AU ND NU) (W : Wr h h' b sl v) (n : b ≠ po ∧ b ≠ a1 ∧ b ≠ a2 ∧ b ≠ a3 ∧ b ≠ a4) : PS Z h' n0 po a1 a2 a3 a4 SD SU CD CU AD AU ND NU := H.keep (Keep.of_wr W) ⟨ninS n.1.symm nin0, ninS n.2.1.symm nin0, ninS n.2.2.1.symm nin0, ninS n.2.2.2.1.symm nin0, ninS n.2.2.2.2.symm nin0⟩
theorem PS.lts {Z : State} {h : Heap} {n0 : Nat} {po a1 a2 a3 a4 : Addr} {SD SU CD CU : Nat → Int} {AD AU ND NU : Int} (H : PS Z h n0 po a1 a2 a3 a4 SD SU CD CU AD AU ND NU) : po < h.size ∧ a1 < h.size ∧ a2 < h.size ∧ a3 < h.size ∧ a4 < h.size := by
  obtain ⟨ds, us, dc, uc, ads, aus, adc, auc, ⟨Epo, Fds, Fus, Fdc, Fuc, Fads, Faus, Fadc, Fauc⟩, ⟨Gds, Gus, Gdc, Guc⟩, ⟨g_po, g_a1, g_a2, g_a3, g_a4⟩, ⟨q01, q02, q03, q04, q12, q13, q14, q23, q24, q34⟩, ⟨yds, yus, hdc, huc, yads, yaus, hadc, hauc⟩⟩ := H
  exact ⟨Epo.lt, Gds.lt, Gus.lt, Gdc.lt, Guc.lt⟩
theorem PS.sz {Z : State} {h : Heap} {n0 : Nat} {po a1 a2 a3 a4 : Addr} {SD SU CD CU : Nat → Int} {AD AU ND NU : Int} (H : PS Z h n0 po a1 a2 a3 a4 SD SU CD CU AD AU ND NU) : n0 ≤ h.size := by
  obtain ⟨ds, us, dc, uc, ads, aus, adc, auc, ⟨Epo, Fds, Fus, Fdc, Fuc, Fads, Faus, Fadc, Fauc⟩, ⟨Gds, Gus, Gdc, Guc⟩, ⟨g_po, g_a1, g_a2, g_a3, g_a4⟩, ⟨q01, q02, q03, q04, q12, q13, q14, q23, q24, q34⟩, ⟨yds, yus, hdc, huc, yads, yaus, hadc, hauc⟩⟩ := H
  exact Nat.le_trans g_po (Nat.le_of_lt Epo.lt)
theorem PS.exa {Z : State} {h : Heap} {n0 : Nat} {po a1 a2 a3 a4 : Addr} {SD SU CD CU : Nat → Int} {AD AU ND NU : Int} (H : PS Z h n0 po a1 a2 a3 a4 SD SU CD CU AD AU ND NU) : Exa Z h po "com/example/pivotline/pivotline/Pseudocosts" := by
  obtain ⟨ds, us, dc, uc, ads, aus, adc, auc, ⟨Epo, Fds, Fus, Fdc, Fuc, Fads, Faus, Fadc, Fauc⟩, ⟨Gds, Gus, Gdc, Guc⟩, ⟨g_po, g_a1, g_a2, g_a3, g_a4⟩, ⟨q01, q02, q03, q04, q12, q13, q14, q23, q24, q34⟩, ⟨yds, yus, hdc, huc, yads, yaus, hadc, hauc⟩⟩ := H
  exact Epo
theorem PS.gs {Z : State} {h : Heap} {n0 : Nat} {po a1 a2 a3 a4 : Addr} {SD SU CD CU : Nat → Int} {AD AU ND NU : Int} (H : PS Z h n0 po a1 a2 a3 a4 SD SU CD CU AD AU ND NU) : n0 ≤ po ∧ n0 ≤ a1 ∧ n0 ≤ a2 ∧ n0 ≤ a3 ∧ n0 ≤ a4 := by
  obtain ⟨ds, us, dc, uc, ads, aus, adc, auc, ⟨Epo, Fds, Fus, Fdc, Fuc, Fads, Faus, Fadc, Fauc⟩, ⟨Gds, Gus, Gdc, Guc⟩, ⟨g_po, g_a1, g_a2, g_a3, g_a4⟩, ⟨q01, q02, q03, q04, q12, q13, q14, q23, q24, q34⟩, ⟨yds, yus, hdc, huc, yads, yaus, hadc, hauc⟩⟩ := H
  exact ⟨g_po, g_a1, g_a2, g_a3, g_a4⟩
theorem own_bit (x : Int32) : (x &&& (1 : Int32)) = 0 ∨ (x &&& (1 : Int32)) = 1 := by
  have h := c_mask x 1 1 (by decide) (by decide)
  have q : (x &&& (1 : Int32)).toInt = 0 ∨ (x &&& (1 : Int32)).toInt = 1 := by omega
  rcases q with q | q
  · exact Or.inl (Int32.toInt_inj.mp q)
  · exact Or.inr (Int32.toInt_inj.mp q)
theorem own_two : Dy 2 0 (4611686018427387904 : UInt64) := Dy.of_bits (c := 4503599627370496) (q := -51) (by decide +kernel) (by decide +kernel)
theorem ne01 {c q : Int32} (hc : c = 0 ∨ c = 1) (hq : q = 0 ∨ q = 1) (h : ¬ c = q) : q.toNatClampNeg ≠ c.toNatClampNeg := by rcases hc with rfl | rfl <;> rcases hq with rfl | rfl <;> first | exact absurd rfl h | decide
def own_z : Nat → Int := fun _ => 0
theorem own_pw (x : Int32) : ((1 : Int32) <<< ((x &&& (3 : Int32)) &&& 31)).toInt = 1 ∨ ((1 : Int32) <<< ((x &&& (3 : Int32)) &&& 31)).toInt = 2 ∨ ((1 : Int32) <<< ((x &&& (3 : Int32)) &&& 31)).toInt = 4 ∨ ((1 : Int32) <<< ((x &&& (3 : Int32)) &&& 31)).toInt = 8 := by
  have h := c_mask x 3 2 (by decide) (by decide)
  have q : (x &&& (3 : Int32)).toInt = 0 ∨ (x &&& (3 : Int32)).toInt = 1 ∨ (x &&& (3 : Int32)).toInt = 2 ∨ (x &&& (3 : Int32)).toInt = 3 := by omega
  rcases q with q | q | q | q
  · rw [show (x &&& (3 : Int32)) = 0 from Int32.toInt_inj.mp q]; decide
  · rw [show (x &&& (3 : Int32)) = 1 from Int32.toInt_inj.mp q]; decide
  · rw [show (x &&& (3 : Int32)) = 2 from Int32.toInt_inj.mp q]; decide
  · rw [show (x &&& (3 : Int32)) = 3 from Int32.toInt_inj.mp q]; decide
theorem own_rem (x : Int32) : -1000 < (x % (1000 : Int32)).toInt ∧ (x % (1000 : Int32)).toInt < 1000 := by
  have a := c_irem x 1000 1000 (by decide)
  rcases Int.lt_or_le x.toInt 0 with q | q
  · have := a.2 q; omega
  · have := a.1 q; omega
theorem own_P {s i : Int} (hs : s = 1 ∨ s = 2 ∨ s = 4 ∨ s = 8) (hi : -1000 < i ∧ i < 1000) : ∃ P : Int, max i 0 * 8 = P * s ∧ 0 ≤ P ∧ P ≤ 8000 := by
  rcases hs with rfl | rfl | rfl | rfl
  · exact ⟨max i 0 * 8, by omega, by omega, by omega⟩
  · exact ⟨max i 0 * 4, by omega, by omega, by omega⟩
  · exact ⟨max i 0 * 2, by omega, by omega, by omega⟩
  · exact ⟨max i 0, by omega, by omega, by omega⟩
theorem own_1q {q : Int32} (h : q = 0 ∨ q = 1) : (1 : Int32) - q = 0 ∨ (1 : Int32) - q = 1 := by rcases h with rfl | rfl <;> decide
theorem own_ub (f g : Nat → Int) (c : Nat) (P : Int) (i : Nat) (h : 0 ≤ P ∧ P ≤ 8000) : (upd f c P i).natAbs ≤ (f i).natAbs + 8000 ∧ (upd g c 1 i).natAbs ≤ (g i).natAbs + 1 := by
  unfold upd; split <;> omega






theorem d1_0 : decode prog_24_method_1_code 0 = .ok (.aload_n 0, 1) := by decide +kernel
theorem d1_1 : decode prog_24_method_1_code 1 = .ok (.invokespecial 1, 3) := by decide +kernel
theorem d1_4 : decode prog_24_method_1_code 4 = .ok (.aload_n 0, 1) := by decide +kernel
theorem d1_5 : decode prog_24_method_1_code 5 = .ok (.iload_n 1, 1) := by decide +kernel
theorem d1_6 : decode prog_24_method_1_code 6 = .ok (.newarray .double, 2) := by decide +kernel
theorem d1_8 : decode prog_24_method_1_code 8 = .ok (.putfield 7, 3) := by decide +kernel
theorem d1_11 : decode prog_24_method_1_code 11 = .ok (.aload_n 0, 1) := by decide +kernel
theorem d1_12 : decode prog_24_method_1_code 12 = .ok (.iload_n 1, 1) := by decide +kernel
theorem d1_13 : decode prog_24_method_1_code 13 = .ok (.newarray .double, 2) := by decide +kernel
theorem d1_15 : decode prog_24_method_1_code 15 = .ok (.putfield 13, 3) := by decide +kernel
theorem d1_18 : decode prog_24_method_1_code 18 = .ok (.aload_n 0, 1) := by decide +kernel
theorem d1_19 : decode prog_24_method_1_code 19 = .ok (.iload_n 1, 1) := by decide +kernel
theorem d1_20 : decode prog_24_method_1_code 20 = .ok (.newarray .int, 2) := by decide +kernel
theorem d1_22 : decode prog_24_method_1_code 22 = .ok (.putfield 16, 3) := by decide +kernel
theorem d1_25 : decode prog_24_method_1_code 25 = .ok (.aload_n 0, 1) := by decide +kernel
theorem d1_26 : decode prog_24_method_1_code 26 = .ok (.iload_n 1, 1) := by decide +kernel
theorem d1_27 : decode prog_24_method_1_code 27 = .ok (.newarray .int, 2) := by decide +kernel
theorem d1_29 : decode prog_24_method_1_code 29 = .ok (.putfield 20, 3) := by decide +kernel
theorem d1_32 : decode prog_24_method_1_code 32 = .ok (.return_, 1) := by decide +kernel
theorem d3_0 : decode prog_24_method_3_code 0 = .ok (.aload_n 0, 1) := by decide +kernel
theorem d3_1 : decode prog_24_method_3_code 1 = .ok (.getfield 7, 3) := by decide +kernel
theorem d3_4 : decode prog_24_method_3_code 4 = .ok (.iload_n 1, 1) := by decide +kernel
theorem d3_5 : decode prog_24_method_3_code 5 = .ok (.daload, 1) := by decide +kernel
theorem d3_6 : decode prog_24_method_3_code 6 = .ok (.aload_n 0, 1) := by decide +kernel
theorem d3_7 : decode prog_24_method_3_code 7 = .ok (.getfield 16, 3) := by decide +kernel
theorem d3_10 : decode prog_24_method_3_code 10 = .ok (.iload_n 1, 1) := by decide +kernel
theorem d3_11 : decode prog_24_method_3_code 11 = .ok (.iaload, 1) := by decide +kernel
theorem d3_12 : decode prog_24_method_3_code 12 = .ok (.aload_n 0, 1) := by decide +kernel
theorem d3_13 : decode prog_24_method_3_code 13 = .ok (.getfield 37, 3) := by decide +kernel
theorem d3_16 : decode prog_24_method_3_code 16 = .ok (.aload_n 0, 1) := by decide +kernel
theorem d3_17 : decode prog_24_method_3_code 17 = .ok (.getfield 40, 3) := by decide +kernel
theorem d3_20 : decode prog_24_method_3_code 20 = .ok (.invokestatic 43, 3) := by decide +kernel
theorem d3_23 : decode prog_24_method_3_code 23 = .ok (.dreturn, 1) := by decide +kernel
theorem d4_0 : decode prog_24_method_7_code 0 = .ok (.dconst 1, 1) := by decide +kernel
theorem d4_1 : decode prog_24_method_7_code 1 = .ok (.dstore 7, 2) := by decide +kernel
theorem d4_3 : decode prog_24_method_7_code 3 = .ok (.iload_n 2, 1) := by decide +kernel
theorem d4_4 : decode prog_24_method_7_code 4 = .ok (.ifCond .le 12, 3) := by decide +kernel
theorem d4_7 : decode prog_24_method_7_code 7 = .ok (.dload_n 0, 1) := by decide +kernel
theorem d4_8 : decode prog_24_method_7_code 8 = .ok (.iload_n 2, 1) := by decide +kernel
theorem d4_9 : decode prog_24_method_7_code 9 = .ok (.i2d, 1) := by decide +kernel
theorem d4_10 : decode prog_24_method_7_code 10 = .ok (.ddiv, 1) := by decide +kernel
theorem d4_11 : decode prog_24_method_7_code 11 = .ok (.dstore 7, 2) := by decide +kernel
theorem d4_13 : decode prog_24_method_7_code 13 = .ok (.goto 17, 3) := by decide +kernel
theorem d4_16 : decode prog_24_method_7_code 16 = .ok (.lload 5, 2) := by decide +kernel
theorem d4_18 : decode prog_24_method_7_code 18 = .ok (.lconst 0, 1) := by decide +kernel
theorem d4_19 : decode prog_24_method_7_code 19 = .ok (.lcmp, 1) := by decide +kernel
theorem d4_20 : decode prog_24_method_7_code 20 = .ok (.ifCond .le 10, 3) := by decide +kernel
theorem d4_23 : decode prog_24_method_7_code 23 = .ok (.dload_n 3, 1) := by decide +kernel
theorem d4_24 : decode prog_24_method_7_code 24 = .ok (.lload 5, 2) := by decide +kernel
theorem d4_26 : decode prog_24_method_7_code 26 = .ok (.l2d, 1) := by decide +kernel
theorem d4_27 : decode prog_24_method_7_code 27 = .ok (.ddiv, 1) := by decide +kernel
theorem d4_28 : decode prog_24_method_7_code 28 = .ok (.dstore 7, 2) := by decide +kernel
theorem d4_30 : decode prog_24_method_7_code 30 = .ok (.dload 7, 2) := by decide +kernel
theorem d4_32 : decode prog_24_method_7_code 32 = .ok (.dreturn, 1) := by decide +kernel
theorem d5_0 : decode method_3_code 0 = .ok (.dload_n 0, 1) := by decide +kernel
theorem d5_1 : decode method_3_code 1 = .ok (.dconst 0, 1) := by decide +kernel
theorem d5_2 : decode method_3_code 2 = .ok (.dcmp .l, 1) := by decide +kernel
theorem d5_3 : decode method_3_code 3 = .ok (.ifCond .le 7, 3) := by decide +kernel
theorem d5_6 : decode method_3_code 6 = .ok (.dload_n 0, 1) := by decide +kernel
theorem d5_7 : decode method_3_code 7 = .ok (.goto 4, 3) := by decide +kernel
theorem d5_10 : decode method_3_code 10 = .ok (.dconst 0, 1) := by decide +kernel
theorem d5_11 : decode method_3_code 11 = .ok (.dreturn, 1) := by decide +kernel
theorem d6_0 : decode prog_24_method_2_code 0 = .ok (.dload 5, 2) := by decide +kernel
theorem d6_2 : decode prog_24_method_2_code 2 = .ok (.dconst 0, 1) := by decide +kernel
theorem d6_3 : decode prog_24_method_2_code 3 = .ok (.invokestatic 23, 3) := by decide +kernel
theorem d6_6 : decode prog_24_method_2_code 6 = .ok (.dload_n 3, 1) := by decide +kernel
theorem d6_7 : decode prog_24_method_2_code 7 = .ok (.ddiv, 1) := by decide +kernel
theorem d6_8 : decode prog_24_method_2_code 8 = .ok (.dstore 7, 2) := by decide +kernel
theorem d6_10 : decode prog_24_method_2_code 10 = .ok (.iload_n 2, 1) := by decide +kernel
theorem d6_11 : decode prog_24_method_2_code 11 = .ok (.ifCond .eq 48, 3) := by decide +kernel
theorem d6_14 : decode prog_24_method_2_code 14 = .ok (.aload_n 0, 1) := by decide +kernel
theorem d6_15 : decode prog_24_method_2_code 15 = .ok (.getfield 13, 3) := by decide +kernel
theorem d6_18 : decode prog_24_method_2_code 18 = .ok (.iload_n 1, 1) := by decide +kernel
theorem d6_19 : decode prog_24_method_2_code 19 = .ok (.dup2, 1) := by decide +kernel
theorem d6_20 : decode prog_24_method_2_code 20 = .ok (.daload, 1) := by decide +kernel
theorem d6_21 : decode prog_24_method_2_code 21 = .ok (.dload 7, 2) := by decide +kernel
theorem d6_23 : decode prog_24_method_2_code 23 = .ok (.dadd, 1) := by decide +kernel
theorem d6_24 : decode prog_24_method_2_code 24 = .ok (.dastore, 1) := by decide +kernel
theorem d6_25 : decode prog_24_method_2_code 25 = .ok (.aload_n 0, 1) := by decide +kernel
theorem d6_26 : decode prog_24_method_2_code 26 = .ok (.getfield 20, 3) := by decide +kernel
theorem d6_29 : decode prog_24_method_2_code 29 = .ok (.iload_n 1, 1) := by decide +kernel
theorem d6_30 : decode prog_24_method_2_code 30 = .ok (.dup2, 1) := by decide +kernel
theorem d6_31 : decode prog_24_method_2_code 31 = .ok (.iaload, 1) := by decide +kernel
theorem d6_32 : decode prog_24_method_2_code 32 = .ok (.iconst 1, 1) := by decide +kernel
theorem d6_33 : decode prog_24_method_2_code 33 = .ok (.iadd, 1) := by decide +kernel
theorem d6_34 : decode prog_24_method_2_code 34 = .ok (.iastore, 1) := by decide +kernel
theorem d6_35 : decode prog_24_method_2_code 35 = .ok (.aload_n 0, 1) := by decide +kernel
theorem d6_36 : decode prog_24_method_2_code 36 = .ok (.dup, 1) := by decide +kernel
theorem d6_37 : decode prog_24_method_2_code 37 = .ok (.getfield 29, 3) := by decide +kernel
theorem d6_40 : decode prog_24_method_2_code 40 = .ok (.dload 7, 2) := by decide +kernel
theorem d6_42 : decode prog_24_method_2_code 42 = .ok (.dadd, 1) := by decide +kernel
theorem d6_43 : decode prog_24_method_2_code 43 = .ok (.putfield 29, 3) := by decide +kernel
theorem d6_46 : decode prog_24_method_2_code 46 = .ok (.aload_n 0, 1) := by decide +kernel
theorem d6_47 : decode prog_24_method_2_code 47 = .ok (.dup, 1) := by decide +kernel
theorem d6_48 : decode prog_24_method_2_code 48 = .ok (.getfield 33, 3) := by decide +kernel
theorem d6_51 : decode prog_24_method_2_code 51 = .ok (.lconst 1, 1) := by decide +kernel
theorem d6_52 : decode prog_24_method_2_code 52 = .ok (.ladd, 1) := by decide +kernel
theorem d6_53 : decode prog_24_method_2_code 53 = .ok (.putfield 33, 3) := by decide +kernel
theorem d6_56 : decode prog_24_method_2_code 56 = .ok (.goto 45, 3) := by decide +kernel
theorem d6_59 : decode prog_24_method_2_code 59 = .ok (.aload_n 0, 1) := by decide +kernel
theorem d6_60 : decode prog_24_method_2_code 60 = .ok (.getfield 7, 3) := by decide +kernel
theorem d6_63 : decode prog_24_method_2_code 63 = .ok (.iload_n 1, 1) := by decide +kernel
theorem d6_64 : decode prog_24_method_2_code 64 = .ok (.dup2, 1) := by decide +kernel
theorem d6_65 : decode prog_24_method_2_code 65 = .ok (.daload, 1) := by decide +kernel
theorem d6_66 : decode prog_24_method_2_code 66 = .ok (.dload 7, 2) := by decide +kernel
theorem d6_68 : decode prog_24_method_2_code 68 = .ok (.dadd, 1) := by decide +kernel
theorem d6_69 : decode prog_24_method_2_code 69 = .ok (.dastore, 1) := by decide +kernel
theorem d6_70 : decode prog_24_method_2_code 70 = .ok (.aload_n 0, 1) := by decide +kernel
theorem d6_71 : decode prog_24_method_2_code 71 = .ok (.getfield 16, 3) := by decide +kernel
theorem d6_74 : decode prog_24_method_2_code 74 = .ok (.iload_n 1, 1) := by decide +kernel
theorem d6_75 : decode prog_24_method_2_code 75 = .ok (.dup2, 1) := by decide +kernel
theorem d6_76 : decode prog_24_method_2_code 76 = .ok (.iaload, 1) := by decide +kernel
theorem d6_77 : decode prog_24_method_2_code 77 = .ok (.iconst 1, 1) := by decide +kernel
theorem d6_78 : decode prog_24_method_2_code 78 = .ok (.iadd, 1) := by decide +kernel
theorem d6_79 : decode prog_24_method_2_code 79 = .ok (.iastore, 1) := by decide +kernel
theorem d6_80 : decode prog_24_method_2_code 80 = .ok (.aload_n 0, 1) := by decide +kernel
theorem d6_81 : decode prog_24_method_2_code 81 = .ok (.dup, 1) := by decide +kernel
theorem d6_82 : decode prog_24_method_2_code 82 = .ok (.getfield 37, 3) := by decide +kernel
theorem d6_85 : decode prog_24_method_2_code 85 = .ok (.dload 7, 2) := by decide +kernel
theorem d6_87 : decode prog_24_method_2_code 87 = .ok (.dadd, 1) := by decide +kernel
theorem d6_88 : decode prog_24_method_2_code 88 = .ok (.putfield 37, 3) := by decide +kernel
theorem d6_91 : decode prog_24_method_2_code 91 = .ok (.aload_n 0, 1) := by decide +kernel
theorem d6_92 : decode prog_24_method_2_code 92 = .ok (.dup, 1) := by decide +kernel
theorem d6_93 : decode prog_24_method_2_code 93 = .ok (.getfield 40, 3) := by decide +kernel
theorem d6_96 : decode prog_24_method_2_code 96 = .ok (.lconst 1, 1) := by decide +kernel
theorem d6_97 : decode prog_24_method_2_code 97 = .ok (.ladd, 1) := by decide +kernel
theorem d6_98 : decode prog_24_method_2_code 98 = .ok (.putfield 40, 3) := by decide +kernel
theorem d6_101 : decode prog_24_method_2_code 101 = .ok (.return_, 1) := by decide +kernel
theorem pd_0 : parseMethodDescriptor "(DD)D" = some ⟨[.double, .double], some .double⟩ := by decide +kernel
theorem pd_1 : parseMethodDescriptor "(DIDJ)D" = some ⟨[.double, .int, .double, .long], some .double⟩ := by decide +kernel
theorem pd_2 : parseMethodDescriptor "(I)V" = some ⟨[.int], none⟩ := by decide +kernel
theorem pd_3 : parseMethodDescriptor "(IZDD)V" = some ⟨[.int, .boolean, .double, .double], none⟩ := by decide +kernel
theorem pd_4 : parseMethodDescriptor "(I)D" = some ⟨[.int], some .double⟩ := by decide +kernel
theorem pd_5 : parseMethodDescriptor "(D)D" = some ⟨[.double], some .double⟩ := by decide +kernel
theorem pn_1 : plainName "com/example/pivotline/pivotline/Pseudocosts" = true := by first | (simp [plainName, overriddenIn]; done) | decide +kernel
theorem ef_1 (m : MethodId) (x0 : Addr) (x1 : Int32) : entryFrame m #[(.ref x0), (.int x1)] 2 = mkF m 0 #[.val (.ref x0), .val (.int x1)] [] := by first | (simp [entryFrame, mkF, argsToLocals, Value.category]; done) | rfl
def QmI (Z : State) (po : Addr) (p1 : Int32)  (h0 : Heap) (n0 : Nat) (v : Option Value) (h : Heap) (L : List Loc) : Prop := v = none ∧ Fr n0 L ∧ ∃ a1 a2 a3 a4, PS Z h n0 po a1 a2 a3 a4 (fun _ => 0) (fun _ => 0) (fun _ => 0) (fun _ => 0) 0 0 0 0
set_option maxRecDepth 65536 in
set_option maxHeartbeats 40000000 in
theorem rmI (l : Launch) (Z : State) (a0 : Array Value) (hw : ∀ d ∈ tables_1, d.before a0 Z = true) (ws : List Jvm.Cond) (po : Addr) (p1 : Int32)  (h0 : Heap) (n0 : Nat) (Z0 : n0 ≤ h0.size) (hp : p1 = 2) (Epo : Exa Z h0 po "com/example/pivotline/pivotline/Pseudocosts") (g_po : n0 ≤ po) (F_downSum : Fld Z h0 po "com/example/pivotline/pivotline/Pseudocosts" "downSum" "[D" .null) (F_upSum : Fld Z h0 po "com/example/pivotline/pivotline/Pseudocosts" "upSum" "[D" .null) (F_downCount : Fld Z h0 po "com/example/pivotline/pivotline/Pseudocosts" "downCount" "[I" .null) (F_upCount : Fld Z h0 po "com/example/pivotline/pivotline/Pseudocosts" "upCount" "[I" .null) (F_allDownSum : Fld Z h0 po "com/example/pivotline/pivotline/Pseudocosts" "allDownSum" "D" (.double (0 : UInt64))) (F_allUpSum : Fld Z h0 po "com/example/pivotline/pivotline/Pseudocosts" "allUpSum" "D" (.double (0 : UInt64))) (F_allDownCount : Fld Z h0 po "com/example/pivotline/pivotline/Pseudocosts" "allDownCount" "J" (.long (0 : Int64))) (F_allUpCount : Fld Z h0 po "com/example/pivotline/pivotline/Pseudocosts" "allUpCount" "J" (.long (0 : Int64))) :
    MetFree l (⟨"com/example/pivotline/pivotline/Pseudocosts", "<init>", "(I)V"⟩ : MethodName) (head1 (Jvm.Cond.code (⟨"com/example/pivotline/pivotline/Pseudocosts", "<init>", "(I)V"⟩ : MethodName) prog_24_method_1_code 2 none :: ws) ({ frames := 1, cells := 4, slots := 8, locals := 12 } : Room)) (fun a U => a = #[(.ref po), (.int p1)] ∧ Z.Warmed39 U.vm ∧ U.heap = h0) (fun _ _ _ _ _ => True) (fun _ U o U' => ∃ v L, o = .returned v ∧ QmI Z po p1 h0 n0 v U'.heap L ∧ FrameEnd U o U' L ({ frames := 1, cells := 4, slots := 8, locals := 12 } : Room).cells ({ frames := 1, cells := 4, slots := 8, locals := 12 } : Room).slots) := by
  refine MetFree.of_bodySF (plainFor_of_name pn_1) hisR ?_
  intro p e s m args below meth c s₁ Bd hml0 hP hK
  obtain ⟨rfl, hZ, hh⟩ := hP
  have hx := Bd.exec
  have hby := Bd.bytes
  have hml : c.maxLocals = 2 := hml0
  have hown : s.vm.findClass "com/example/pivotline/pivotline/Pseudocosts" = some m.cls := findClass_of_methodNamed Bd.named
  have hnm := (name_of_methodNamed Bd.named Bd.method).1
  have X0 : Stand p l e ({ frames := 1, cells := 4, slots := 8, locals := 12 } : Room) s m #[(.ref po), (.int p1)] below meth c s₁ [] 0 0 := Stand.of_body Bd
  have e0 : s₁.heap = h0 := by rw [← hh, Bd.state]; rfl
  have N0 := Fr.nil n0
  have pre0 : ∀ t, Steps p.tables e below (s₁.setTop (mkF m 0 #[.val (.ref po), .val (.int p1)] [])) t → Steps p.tables e below (s₁.setTop (entryFrame m #[(.ref po), (.int p1)] 2)) t := fun t k => castTop (ef_1 m po p1) k
  obtain ⟨S0, hS0⟩ : ∃ z, z = s₁.setTop (mkF m 0 #[.val (.ref po), .val (.int p1)] []) := ⟨_, rfl⟩
  have r0 : Steps p.tables e below S0 (s₁.setTop (mkF m 0 #[.val (.ref po), .val (.int p1)] [])) := by rw [hS0]; exact Steps.refl _
  have r1 : Steps p.tables e below S0 (s₁.setTop (mkF m 1 #[.val (.ref po), .val (.int p1)] [(.ref po)])) := by
    refine r0.trans ?_
    show Steps p.tables e below (s₁.setTop (mkF m 0 #[.val (.ref po), .val (.int p1)] [])) _
    refine XS.aloadN X0.here hx rfl (hb hby d1_0) rfl rfl ?_
    exact Steps.refl _
  obtain ⟨T2, X2, e2, st2⟩ := initO X0 hx hZ hown (hw _ (List.mem_of_getElem? (i := 6) rfl)) (hw _ (List.mem_of_getElem? (i := 7) rfl)) (hw _ (List.mem_of_getElem? (i := 8) rfl)) e0 (g := (mkF m 1 #[.val (.ref po), .val (.int p1)] [(.ref po)])) rfl (by rw [hml]; rfl) rfl (hb hby d1_1) (by decide) (W := 0) (by show 2 * 0 + _ ≤ _; exact Nat.le_of_eq rfl) (by decide)
  have r3 : Steps p.tables e below S0 (T2.setTop (mkF m 4 #[.val (.ref po), .val (.int p1)] [])) := r1.trans (st2 _ (Steps.refl _))
  have hp0 : ¬ p1 < 0 := by rw [hp]; decide
  have hp2 : p1.toNatClampNeg = 2 := by rw [hp]; decide
  have y0 : Dy 0 3 (0 : UInt64) := (dy_zero.scale 3).cast (by rfl) rfl
  have r4 : Steps p.tables e below S0 (T2.setTop (mkF m 6 #[.val (.ref po), .val (.int p1)] [(.int p1), (.ref po)])) := by
    refine r3.trans ?_
    show Steps p.tables e below (T2.setTop (mkF m 4 #[.val (.ref po), .val (.int p1)] [])) _
    refine XS.aloadN X2.here hx rfl (hb hby d1_4) rfl rfl ?_
    show Steps p.tables e below (T2.setTop (mkF m 5 #[.val (.ref po), .val (.int p1)] [(.ref po)])) _
    refine XS.iloadN X2.here hx rfl (hb hby d1_5) rfl ?_
    exact Steps.refl _
  obtain ⟨T5, h5, k5, X5, e5, E5, A5, st5⟩ := newP X2 hx hZ (hw _ (List.mem_of_getElem? (i := 9) rfl)) e2 (g := (mkF m 6 #[.val (.ref po), .val (.int p1)] [(.int p1), (.ref po)])) rfl (hb hby d1_6) rfl hp0 (cap := 2) (Nat.le_of_eq hp2) (by decide) (by decide) (by decide)
  obtain ⟨a1, g5⟩ : ∃ z, z = h0.size := ⟨_, rfl⟩
  rw [← g5] at A5 st5
  have ne_po_a1 : po ≠ a1 := Nat.ne_of_lt (by rw [g5]; exact Epo.lt)
  have G_a1 : Gar Z h5 a1 .double (p1).toNatClampNeg (fun _ => defaultValue .double) := Gar.new A5
  have g_a1 : n0 ≤ a1 := Nat.le_trans Z0 (Nat.le_of_eq g5.symm)
  have F5_po_downSum := F_downSum.ext E5
  have F5_po_upSum := F_upSum.ext E5
  have F5_po_downCount := F_downCount.ext E5
  have F5_po_upCount := F_upCount.ext E5
  have F5_po_allDownSum := F_allDownSum.ext E5
  have F5_po_allUpSum := F_allUpSum.ext E5
  have F5_po_allDownCount := F_allDownCount.ext E5
  have F5_po_allUpCount := F_allUpCount.ext E5
  have E5_po := Epo.ext E5
  have Z5 : n0 ≤ h5.size := Nat.le_trans Z0 E5.1
  have r6 : Steps p.tables e below S0 (T5.setTop (mkF m 8 #[.val (.ref po), .val (.int p1)] [(.ref a1), (.ref po)])) := r4.trans (st5 _ (Steps.refl _))
  obtain ⟨T7, h7, X7, e7, W7, st7⟩ := putF X5 hx hZ hown (host := "") (Or.inl (hw _ (List.mem_of_getElem? (i := 10) rfl))) Via.refl e5 F5_po_downSum E5_po (Or.inr ⟨(hw _ (List.mem_of_getElem? (i := 11) rfl)), rfl, hnm⟩) (hw _ (List.mem_of_getElem? (i := 1) rfl)) (ty := (.array .double)) (by decide) rfl rfl (g := (mkF m 8 #[.val (.ref po), .val (.int p1)] [(.ref a1), (.ref po)])) rfl rfl (hb hby d1_8)
  have N7 := Fr.snoc X7 N0 g_po
  have G7_a1 := G_a1.other W7 (Ne.symm ne_po_a1)
  have F7_po_downSum := F5_po_downSum.same W7
  have F7_po_upSum := F5_po_upSum.other W7 (Or.inr (slot_ne (a0 := a0) (Or.inr (hw _ (List.mem_of_getElem? (i := 13) rfl))) (Or.inr (hw _ (List.mem_of_getElem? (i := 11) rfl))) (by decide) (t := (.array .double)) (t' := (.array .double)) (by decide) (by decide)))
  have F7_po_downCount := F5_po_downCount.other W7 (Or.inr (slot_ne (a0 := a0) (Or.inr (hw _ (List.mem_of_getElem? (i := 16) rfl))) (Or.inr (hw _ (List.mem_of_getElem? (i := 11) rfl))) (by decide) (t := (.array .int)) (t' := (.array .double)) (by decide) (by decide)))
  have F7_po_upCount := F5_po_upCount.other W7 (Or.inr (slot_ne (a0 := a0) (Or.inr (hw _ (List.mem_of_getElem? (i := 18) rfl))) (Or.inr (hw _ (List.mem_of_getElem? (i := 11) rfl))) (by decide) (t := (.array .int)) (t' := (.array .double)) (by decide) (by decide)))
  have F7_po_allDownSum := F5_po_allDownSum.other W7 (Or.inr (slot_ne (a0 := a0) (Or.inl (hw _ (List.mem_of_getElem? (i := 25) rfl))) (Or.inr (hw _ (List.mem_of_getElem? (i := 11) rfl))) (by decide) (t := .double) (t' := (.array .double)) (by decide) (by decide)))
  have F7_po_allUpSum := F5_po_allUpSum.other W7 (Or.inr (slot_ne (a0 := a0) (Or.inl (hw _ (List.mem_of_getElem? (i := 45) rfl))) (Or.inr (hw _ (List.mem_of_getElem? (i := 11) rfl))) (by decide) (t := .double) (t' := (.array .double)) (by decide) (by decide)))
  have F7_po_allDownCount := F5_po_allDownCount.other W7 (Or.inr (slot_ne (a0 := a0) (Or.inl (hw _ (List.mem_of_getElem? (i := 27) rfl))) (Or.inr (hw _ (List.mem_of_getElem? (i := 11) rfl))) (by decide) (t := .long) (t' := (.array .double)) (by decide) (by decide)))
  have F7_po_allUpCount := F5_po_allUpCount.other W7 (Or.inr (slot_ne (a0 := a0) (Or.inl (hw _ (List.mem_of_getElem? (i := 47) rfl))) (Or.inr (hw _ (List.mem_of_getElem? (i := 11) rfl))) (by decide) (t := .long) (t' := (.array .double)) (by decide) (by decide)))
  have E7_po := E5_po.wr W7
  have Z7 : n0 ≤ h7.size := Nat.le_trans Z5 (Nat.le_of_eq W7.size.symm)
  have r8 : Steps p.tables e below S0 (T7.setTop (mkF m 11 #[.val (.ref po), .val (.int p1)] [])) := r6.trans (st7 _ (Steps.refl _))
  have r9 : Steps p.tables e below S0 (T7.setTop (mkF m 13 #[.val (.ref po), .val (.int p1)] [(.int p1), (.ref po)])) := by
    refine r8.trans ?_
    show Steps p.tables e below (T7.setTop (mkF m 11 #[.val (.ref po), .val (.int p1)] [])) _
    refine XS.aloadN X7.here hx rfl (hb hby d1_11) rfl rfl ?_
    show Steps p.tables e below (T7.setTop (mkF m 12 #[.val (.ref po), .val (.int p1)] [(.ref po)])) _
    refine XS.iloadN X7.here hx rfl (hb hby d1_12) rfl ?_
    exact Steps.refl _
  obtain ⟨T10, h10, k10, X10, e10, E10, A10, st10⟩ := newP X7 hx hZ (hw _ (List.mem_of_getElem? (i := 9) rfl)) e7 (g := (mkF m 13 #[.val (.ref po), .val (.int p1)] [(.int p1), (.ref po)])) rfl (hb hby d1_13) rfl hp0 (cap := 2) (Nat.le_of_eq hp2) (by decide) (by decide) (by decide)
  obtain ⟨a2, g10⟩ : ∃ z, z = h7.size := ⟨_, rfl⟩
  rw [← g10] at A10 st10
  have ne_a1_a2 : a1 ≠ a2 := Nat.ne_of_lt (by rw [g10]; exact G7_a1.lt)
  have ne_po_a2 : po ≠ a2 := Nat.ne_of_lt (by rw [g10]; exact E7_po.lt)
  have G_a2 : Gar Z h10 a2 .double (p1).toNatClampNeg (fun _ => defaultValue .double) := Gar.new A10
  have g_a2 : n0 ≤ a2 := Nat.le_trans Z7 (Nat.le_of_eq g10.symm)
  have G10_a1 := G7_a1.ext E10
  have F10_po_downSum := F7_po_downSum.ext E10
  have F10_po_upSum := F7_po_upSum.ext E10
  have F10_po_downCount := F7_po_downCount.ext E10
  have F10_po_upCount := F7_po_upCount.ext E10
  have F10_po_allDownSum := F7_po_allDownSum.ext E10
  have F10_po_allUpSum := F7_po_allUpSum.ext E10
  have F10_po_allDownCount := F7_po_allDownCount.ext E10
  have F10_po_allUpCount := F7_po_allUpCount.ext E10
  have E10_po := E7_po.ext E10
  have Z10 : n0 ≤ h10.size := Nat.le_trans Z7 E10.1
  have r11 : Steps p.tables e below S0 (T10.setTop (mkF m 15 #[.val (.ref po), .val (.int p1)] [(.ref a2), (.ref po)])) := r9.trans (st10 _ (Steps.refl _))
  obtain ⟨T12, h12, X12, e12, W12, st12⟩ := putF X10 hx hZ hown (host := "") (Or.inl (hw _ (List.mem_of_getElem? (i := 12) rfl))) Via.refl e10 F10_po_upSum E10_po (Or.inr ⟨(hw _ (List.mem_of_getElem? (i := 13) rfl)), rfl, hnm⟩) (hw _ (List.mem_of_getElem? (i := 1) rfl)) (ty := (.array .double)) (by decide) rfl rfl (g := (mkF m 15 #[.val (.ref po), .val (.int p1)] [(.ref a2), (.ref po)])) rfl rfl (hb hby d1_15)
  have N12 := Fr.snoc X12 N7 g_po
  have G12_a1 := G10_a1.other W12 (Ne.symm ne_po_a1)
  have G12_a2 := G_a2.other W12 (Ne.symm ne_po_a2)
  have F12_po_downSum := F10_po_downSum.other W12 (Or.inr (slot_ne (a0 := a0) (Or.inr (hw _ (List.mem_of_getElem? (i := 11) rfl))) (Or.inr (hw _ (List.mem_of_getElem? (i := 13) rfl))) (by decide) (t := (.array .double)) (t' := (.array .double)) (by decide) (by decide)))
  have F12_po_upSum := F10_po_upSum.same W12
  have F12_po_downCount := F10_po_downCount.other W12 (Or.inr (slot_ne (a0 := a0) (Or.inr (hw _ (List.mem_of_getElem? (i := 16) rfl))) (Or.inr (hw _ (List.mem_of_getElem? (i := 13) rfl))) (by decide) (t := (.array .int)) (t' := (.array .double)) (by decide) (by decide)))
  have F12_po_upCount := F10_po_upCount.other W12 (Or.inr (slot_ne (a0 := a0) (Or.inr (hw _ (List.mem_of_getElem? (i := 18) rfl))) (Or.inr (hw _ (List.mem_of_getElem? (i := 13) rfl))) (by decide) (t := (.array .int)) (t' := (.array .double)) (by decide) (by decide)))
  have F12_po_allDownSum := F10_po_allDownSum.other W12 (Or.inr (slot_ne (a0 := a0) (Or.inl (hw _ (List.mem_of_getElem? (i := 25) rfl))) (Or.inr (hw _ (List.mem_of_getElem? (i := 13) rfl))) (by decide) (t := .double) (t' := (.array .double)) (by decide) (by decide)))
  have F12_po_allUpSum := F10_po_allUpSum.other W12 (Or.inr (slot_ne (a0 := a0) (Or.inl (hw _ (List.mem_of_getElem? (i := 45) rfl))) (Or.inr (hw _ (List.mem_of_getElem? (i := 13) rfl))) (by decide) (t := .double) (t' := (.array .double)) (by decide) (by decide)))
  have F12_po_allDownCount := F10_po_allDownCount.other W12 (Or.inr (slot_ne (a0 := a0) (Or.inl (hw _ (List.mem_of_getElem? (i := 27) rfl))) (Or.inr (hw _ (List.mem_of_getElem? (i := 13) rfl))) (by decide) (t := .long) (t' := (.array .double)) (by decide) (by decide)))
  have F12_po_allUpCount := F10_po_allUpCount.other W12 (Or.inr (slot_ne (a0 := a0) (Or.inl (hw _ (List.mem_of_getElem? (i := 47) rfl))) (Or.inr (hw _ (List.mem_of_getElem? (i := 13) rfl))) (by decide) (t := .long) (t' := (.array .double)) (by decide) (by decide)))
  have E12_po := E10_po.wr W12
  have Z12 : n0 ≤ h12.size := Nat.le_trans Z10 (Nat.le_of_eq W12.size.symm)
  have r13 : Steps p.tables e below S0 (T12.setTop (mkF m 18 #[.val (.ref po), .val (.int p1)] [])) := r11.trans (st12 _ (Steps.refl _))
  have r14 : Steps p.tables e below S0 (T12.setTop (mkF m 20 #[.val (.ref po), .val (.int p1)] [(.int p1), (.ref po)])) := by
    refine r13.trans ?_
    show Steps p.tables e below (T12.setTop (mkF m 18 #[.val (.ref po), .val (.int p1)] [])) _
    refine XS.aloadN X12.here hx rfl (hb hby d1_18) rfl rfl ?_
    show Steps p.tables e below (T12.setTop (mkF m 19 #[.val (.ref po), .val (.int p1)] [(.ref po)])) _
    refine XS.iloadN X12.here hx rfl (hb hby d1_19) rfl ?_
    exact Steps.refl _
  obtain ⟨T15, h15, k15, X15, e15, E15, A15, st15⟩ := newP X12 hx hZ (hw _ (List.mem_of_getElem? (i := 14) rfl)) e12 (g := (mkF m 20 #[.val (.ref po), .val (.int p1)] [(.int p1), (.ref po)])) rfl (hb hby d1_20) rfl hp0 (cap := 2) (Nat.le_of_eq hp2) (by decide) (by decide) (by decide)
  obtain ⟨a3, g15⟩ : ∃ z, z = h12.size := ⟨_, rfl⟩
  rw [← g15] at A15 st15
  have ne_a1_a3 : a1 ≠ a3 := Nat.ne_of_lt (by rw [g15]; exact G12_a1.lt)
  have ne_a2_a3 : a2 ≠ a3 := Nat.ne_of_lt (by rw [g15]; exact G12_a2.lt)
  have ne_po_a3 : po ≠ a3 := Nat.ne_of_lt (by rw [g15]; exact E12_po.lt)
  have G_a3 : Gar Z h15 a3 .int (p1).toNatClampNeg (fun _ => defaultValue .int) := Gar.new A15
  have g_a3 : n0 ≤ a3 := Nat.le_trans Z12 (Nat.le_of_eq g15.symm)
  have G15_a1 := G12_a1.ext E15
  have G15_a2 := G12_a2.ext E15
  have F15_po_downSum := F12_po_downSum.ext E15
  have F15_po_upSum := F12_po_upSum.ext E15
  have F15_po_downCount := F12_po_downCount.ext E15
  have F15_po_upCount := F12_po_upCount.ext E15
  have F15_po_allDownSum := F12_po_allDownSum.ext E15
  have F15_po_allUpSum := F12_po_allUpSum.ext E15
  have F15_po_allDownCount := F12_po_allDownCount.ext E15
  have F15_po_allUpCount := F12_po_allUpCount.ext E15
  have E15_po := E12_po.ext E15
  have Z15 : n0 ≤ h15.size := Nat.le_trans Z12 E15.1
  have r16 : Steps p.tables e below S0 (T15.setTop (mkF m 22 #[.val (.ref po), .val (.int p1)] [(.ref a3), (.ref po)])) := r14.trans (st15 _ (Steps.refl _))
  obtain ⟨T17, h17, X17, e17, W17, st17⟩ := putF X15 hx hZ hown (host := "") (Or.inl (hw _ (List.mem_of_getElem? (i := 15) rfl))) Via.refl e15 F15_po_downCount E15_po (Or.inr ⟨(hw _ (List.mem_of_getElem? (i := 16) rfl)), rfl, hnm⟩) (hw _ (List.mem_of_getElem? (i := 1) rfl)) (ty := (.array .int)) (by decide) rfl rfl (g := (mkF m 22 #[.val (.ref po), .val (.int p1)] [(.ref a3), (.ref po)])) rfl rfl (hb hby d1_22)
  have N17 := Fr.snoc X17 N12 g_po
  have G17_a1 := G15_a1.other W17 (Ne.symm ne_po_a1)
  have G17_a2 := G15_a2.other W17 (Ne.symm ne_po_a2)
  have G17_a3 := G_a3.other W17 (Ne.symm ne_po_a3)
  have F17_po_downSum := F15_po_downSum.other W17 (Or.inr (slot_ne (a0 := a0) (Or.inr (hw _ (List.mem_of_getElem? (i := 11) rfl))) (Or.inr (hw _ (List.mem_of_getElem? (i := 16) rfl))) (by decide) (t := (.array .double)) (t' := (.array .int)) (by decide) (by decide)))
  have F17_po_upSum := F15_po_upSum.other W17 (Or.inr (slot_ne (a0 := a0) (Or.inr (hw _ (List.mem_of_getElem? (i := 13) rfl))) (Or.inr (hw _ (List.mem_of_getElem? (i := 16) rfl))) (by decide) (t := (.array .double)) (t' := (.array .int)) (by decide) (by decide)))
  have F17_po_downCount := F15_po_downCount.same W17
  have F17_po_upCount := F15_po_upCount.other W17 (Or.inr (slot_ne (a0 := a0) (Or.inr (hw _ (List.mem_of_getElem? (i := 18) rfl))) (Or.inr (hw _ (List.mem_of_getElem? (i := 16) rfl))) (by decide) (t := (.array .int)) (t' := (.array .int)) (by decide) (by decide)))
  have F17_po_allDownSum := F15_po_allDownSum.other W17 (Or.inr (slot_ne (a0 := a0) (Or.inl (hw _ (List.mem_of_getElem? (i := 25) rfl))) (Or.inr (hw _ (List.mem_of_getElem? (i := 16) rfl))) (by decide) (t := .double) (t' := (.array .int)) (by decide) (by decide)))
  have F17_po_allUpSum := F15_po_allUpSum.other W17 (Or.inr (slot_ne (a0 := a0) (Or.inl (hw _ (List.mem_of_getElem? (i := 45) rfl))) (Or.inr (hw _ (List.mem_of_getElem? (i := 16) rfl))) (by decide) (t := .double) (t' := (.array .int)) (by decide) (by decide)))
  have F17_po_allDownCount := F15_po_allDownCount.other W17 (Or.inr (slot_ne (a0 := a0) (Or.inl (hw _ (List.mem_of_getElem? (i := 27) rfl))) (Or.inr (hw _ (List.mem_of_getElem? (i := 16) rfl))) (by decide) (t := .long) (t' := (.array .int)) (by decide) (by decide)))
  have F17_po_allUpCount := F15_po_allUpCount.other W17 (Or.inr (slot_ne (a0 := a0) (Or.inl (hw _ (List.mem_of_getElem? (i := 47) rfl))) (Or.inr (hw _ (List.mem_of_getElem? (i := 16) rfl))) (by decide) (t := .long) (t' := (.array .int)) (by decide) (by decide)))
  have E17_po := E15_po.wr W17
  have Z17 : n0 ≤ h17.size := Nat.le_trans Z15 (Nat.le_of_eq W17.size.symm)
  have r18 : Steps p.tables e below S0 (T17.setTop (mkF m 25 #[.val (.ref po), .val (.int p1)] [])) := r16.trans (st17 _ (Steps.refl _))
  have r19 : Steps p.tables e below S0 (T17.setTop (mkF m 27 #[.val (.ref po), .val (.int p1)] [(.int p1), (.ref po)])) := by
    refine r18.trans ?_
    show Steps p.tables e below (T17.setTop (mkF m 25 #[.val (.ref po), .val (.int p1)] [])) _
    refine XS.aloadN X17.here hx rfl (hb hby d1_25) rfl rfl ?_
    show Steps p.tables e below (T17.setTop (mkF m 26 #[.val (.ref po), .val (.int p1)] [(.ref po)])) _
    refine XS.iloadN X17.here hx rfl (hb hby d1_26) rfl ?_
    exact Steps.refl _
  obtain ⟨T20, h20, k20, X20, e20, E20, A20, st20⟩ := newP X17 hx hZ (hw _ (List.mem_of_getElem? (i := 14) rfl)) e17 (g := (mkF m 27 #[.val (.ref po), .val (.int p1)] [(.int p1), (.ref po)])) rfl (hb hby d1_27) rfl hp0 (cap := 2) (Nat.le_of_eq hp2) (by decide) (by decide) (by decide)
  obtain ⟨a4, g20⟩ : ∃ z, z = h17.size := ⟨_, rfl⟩
  rw [← g20] at A20 st20
  have ne_a1_a4 : a1 ≠ a4 := Nat.ne_of_lt (by rw [g20]; exact G17_a1.lt)
  have ne_a2_a4 : a2 ≠ a4 := Nat.ne_of_lt (by rw [g20]; exact G17_a2.lt)
  have ne_a3_a4 : a3 ≠ a4 := Nat.ne_of_lt (by rw [g20]; exact G17_a3.lt)
  have ne_po_a4 : po ≠ a4 := Nat.ne_of_lt (by rw [g20]; exact E17_po.lt)
  have G_a4 : Gar Z h20 a4 .int (p1).toNatClampNeg (fun _ => defaultValue .int) := Gar.new A20
  have g_a4 : n0 ≤ a4 := Nat.le_trans Z17 (Nat.le_of_eq g20.symm)
  have G20_a1 := G17_a1.ext E20
  have G20_a2 := G17_a2.ext E20
  have G20_a3 := G17_a3.ext E20
  have F20_po_downSum := F17_po_downSum.ext E20
  have F20_po_upSum := F17_po_upSum.ext E20
  have F20_po_downCount := F17_po_downCount.ext E20
  have F20_po_upCount := F17_po_upCount.ext E20
  have F20_po_allDownSum := F17_po_allDownSum.ext E20
  have F20_po_allUpSum := F17_po_allUpSum.ext E20
  have F20_po_allDownCount := F17_po_allDownCount.ext E20
  have F20_po_allUpCount := F17_po_allUpCount.ext E20
  have E20_po := E17_po.ext E20
  have Z20 : n0 ≤ h20.size := Nat.le_trans Z17 E20.1
  have r21 : Steps p.tables e below S0 (T20.setTop (mkF m 29 #[.val (.ref po), .val (.int p1)] [(.ref a4), (.ref po)])) := r19.trans (st20 _ (Steps.refl _))
  obtain ⟨T22, h22, X22, e22, W22, st22⟩ := putF X20 hx hZ hown (host := "") (Or.inl (hw _ (List.mem_of_getElem? (i := 17) rfl))) Via.refl e20 F20_po_upCount E20_po (Or.inr ⟨(hw _ (List.mem_of_getElem? (i := 18) rfl)), rfl, hnm⟩) (hw _ (List.mem_of_getElem? (i := 1) rfl)) (ty := (.array .int)) (by decide) rfl rfl (g := (mkF m 29 #[.val (.ref po), .val (.int p1)] [(.ref a4), (.ref po)])) rfl rfl (hb hby d1_29)
  have N22 := Fr.snoc X22 N17 g_po
  have G22_a1 := G20_a1.other W22 (Ne.symm ne_po_a1)
  have G22_a2 := G20_a2.other W22 (Ne.symm ne_po_a2)
  have G22_a3 := G20_a3.other W22 (Ne.symm ne_po_a3)
  have G22_a4 := G_a4.other W22 (Ne.symm ne_po_a4)
  have F22_po_downSum := F20_po_downSum.other W22 (Or.inr (slot_ne (a0 := a0) (Or.inr (hw _ (List.mem_of_getElem? (i := 11) rfl))) (Or.inr (hw _ (List.mem_of_getElem? (i := 18) rfl))) (by decide) (t := (.array .double)) (t' := (.array .int)) (by decide) (by decide)))
  have F22_po_upSum := F20_po_upSum.other W22 (Or.inr (slot_ne (a0 := a0) (Or.inr (hw _ (List.mem_of_getElem? (i := 13) rfl))) (Or.inr (hw _ (List.mem_of_getElem? (i := 18) rfl))) (by decide) (t := (.array .double)) (t' := (.array .int)) (by decide) (by decide)))
  have F22_po_downCount := F20_po_downCount.other W22 (Or.inr (slot_ne (a0 := a0) (Or.inr (hw _ (List.mem_of_getElem? (i := 16) rfl))) (Or.inr (hw _ (List.mem_of_getElem? (i := 18) rfl))) (by decide) (t := (.array .int)) (t' := (.array .int)) (by decide) (by decide)))
  have F22_po_upCount := F20_po_upCount.same W22
  have F22_po_allDownSum := F20_po_allDownSum.other W22 (Or.inr (slot_ne (a0 := a0) (Or.inl (hw _ (List.mem_of_getElem? (i := 25) rfl))) (Or.inr (hw _ (List.mem_of_getElem? (i := 18) rfl))) (by decide) (t := .double) (t' := (.array .int)) (by decide) (by decide)))
  have F22_po_allUpSum := F20_po_allUpSum.other W22 (Or.inr (slot_ne (a0 := a0) (Or.inl (hw _ (List.mem_of_getElem? (i := 45) rfl))) (Or.inr (hw _ (List.mem_of_getElem? (i := 18) rfl))) (by decide) (t := .double) (t' := (.array .int)) (by decide) (by decide)))
  have F22_po_allDownCount := F20_po_allDownCount.other W22 (Or.inr (slot_ne (a0 := a0) (Or.inl (hw _ (List.mem_of_getElem? (i := 27) rfl))) (Or.inr (hw _ (List.mem_of_getElem? (i := 18) rfl))) (by decide) (t := .long) (t' := (.array .int)) (by decide) (by decide)))
  have F22_po_allUpCount := F20_po_allUpCount.other W22 (Or.inr (slot_ne (a0 := a0) (Or.inl (hw _ (List.mem_of_getElem? (i := 47) rfl))) (Or.inr (hw _ (List.mem_of_getElem? (i := 18) rfl))) (by decide) (t := .long) (t' := (.array .int)) (by decide) (by decide)))
  have E22_po := E20_po.wr W22
  have Z22 : n0 ≤ h22.size := Nat.le_trans Z20 (Nat.le_of_eq W22.size.symm)
  have r23 : Steps p.tables e below S0 (T22.setTop (mkF m 32 #[.val (.ref po), .val (.int p1)] [])) := r21.trans (st22 _ (Steps.refl _))
  obtain ⟨fs, hr, hrun, hended, hW, hsame⟩ := X22.leave (v := none) (fun _ => rfl)
  refine ⟨_, _, pre0 _ ?_, hrun, hended, _, _, rfl, ?_, ⟨_, rfl⟩, hW, hsame.mono (by decide) (by decide)⟩
  · rw [← hS0]
    refine r23.trans ?_
    show Steps p.tables e below (T22.setTop (mkF m 32 #[.val (.ref po), .val (.int p1)] [])) _
    exact X22.returnOut hx Bd.returns (hb hby d1_32) hr
  · show QmI Z po p1 h0 n0 _ T22.heap _; rw [e22]; exact ⟨rfl, N22, a1, a2, a3, a4, ⟨fun _ => 0, fun _ => 0, fun _ => 0, fun _ => 0, 0, 0, 0, 0, ⟨E22_po, F22_po_downSum, F22_po_upSum, F22_po_downCount, F22_po_upCount, F22_po_allDownSum, F22_po_allUpSum, F22_po_allDownCount, F22_po_allUpCount⟩, ⟨(G22_a1.len hp2).congr (fun _ _ => rfl), (G22_a2.len hp2).congr (fun _ _ => rfl), (G22_a3.len hp2).congr (fun _ _ => rfl), (G22_a4.len hp2).congr (fun _ _ => rfl)⟩, ⟨g_po, g_a1, g_a2, g_a3, g_a4⟩, ⟨ne_po_a1, ne_po_a2, ne_po_a3, ne_po_a4, ne_a1_a2, ne_a1_a3, ne_a1_a4, ne_a2_a3, ne_a2_a4, ne_a3_a4⟩, ⟨fun _ _ => y0, fun _ _ => y0, fun _ _ => rfl, fun _ _ => rfl, y0, y0, rfl, rfl⟩⟩⟩
theorem pn_6 : plainName "com/example/pivotline/pivotline/Pseudocosts" = true := by first | (simp [plainName, overriddenIn]; done) | decide +kernel
theorem ef_6 (m : MethodId) (x0 : Addr) (x1 : Int32) (x2 : Int32) (x3 : UInt64) (x4 : UInt64) : entryFrame m #[(.ref x0), (.int x1), (.int x2), (.double x3), (.double x4)] 9 = mkF m 0 #[.val (.ref x0), .val (.int x1), .val (.int x2), .val (.double x3), .second, .val (.double x4), .second, .unset, .unset] [] := by first | (simp [entryFrame, mkF, argsToLocals, Value.category]; done) | rfl
def QmRu (Z : State) (po : Addr) (cl : Int32) (up : Int32) (dist : UInt64) (rise : UInt64) (a1 : Addr) (a2 : Addr) (a3 : Addr) (a4 : Addr) (SD : Nat → Int) (SU : Nat → Int) (CD : Nat → Int) (CU : Nat → Int) (AD : Int) (AU : Int) (ND : Int) (NU : Int) (ri : Int) (dst : Int) (P : Int) (h0 : Heap) (n0 : Nat) (v : Option Value) (h : Heap) (L : List Loc) : Prop := v = none ∧ Fr n0 L ∧ Keep h0 h [po, a1, a2, a3, a4] ∧ PS Z h n0 po a1 a2 a3 a4 SD (upd SU cl.toNatClampNeg P) CD (upd CU cl.toNatClampNeg 1) AD (AU + P) ND (NU + 1)
set_option maxRecDepth 65536 in
set_option maxHeartbeats 40000000 in
theorem rmRu (l : Launch) (Z : State) (a0 : Array Value) (hw : ∀ d ∈ tables_1, d.before a0 Z = true) (ws : List Jvm.Cond) (po : Addr) (cl : Int32) (up : Int32) (dist : UInt64) (rise : UInt64) (a1 : Addr) (a2 : Addr) (a3 : Addr) (a4 : Addr) (SD : Nat → Int) (SU : Nat → Int) (CD : Nat → Int) (CU : Nat → Int) (AD : Int) (AU : Int) (ND : Int) (NU : Int) (ri : Int) (dst : Int) (P : Int) (h0 : Heap) (n0 : Nat) (Z0 : n0 ≤ h0.size) (hPS : PS Z h0 n0 po a1 a2 a3 a4 SD SU CD CU AD AU ND NU) (hcl : cl = 0 ∨ cl = 1) (hup : ¬ up = 0) (yd : Dy dst 0 dist) (yr : Dy ri 0 rise) (hd : 0 < dst) (hP : max ri 0 * 8 = P * dst) (hP2 : P.natAbs ≤ 1000000) (bS : (SU cl.toNatClampNeg).natAbs ≤ 1000000000) (bA : AU.natAbs ≤ 1000000000) (bC : (CU cl.toNatClampNeg).natAbs ≤ 1000000) (bN : NU.natAbs ≤ 1000000) :
    MetFree l (⟨"com/example/pivotline/pivotline/Pseudocosts", "record", "(IZDD)V"⟩ : MethodName) (head1 (Jvm.Cond.code (⟨"com/example/pivotline/pivotline/Pseudocosts", "record", "(IZDD)V"⟩ : MethodName) prog_24_method_2_code 9 none :: ws) ({ frames := 1, cells := 0, slots := 0, locals := 15 } : Room)) (fun a U => a = #[(.ref po), (.int cl), (.int up), (.double dist), (.double rise)] ∧ Z.Warmed39 U.vm ∧ U.heap = h0) (fun _ _ _ _ _ => True) (fun _ U o U' => ∃ v L, o = .returned v ∧ QmRu Z po cl up dist rise a1 a2 a3 a4 SD SU CD CU AD AU ND NU ri dst P h0 n0 v U'.heap L ∧ FrameEnd U o U' L ({ frames := 1, cells := 0, slots := 0, locals := 15 } : Room).cells ({ frames := 1, cells := 0, slots := 0, locals := 15 } : Room).slots) := by
  refine MetFree.of_bodySF (plainFor_of_name pn_6) hisR ?_
  intro p e s m args below meth c s₁ Bd hml0 hP hK
  obtain ⟨rfl, hZ, hh⟩ := hP
  have hx := Bd.exec
  have hby := Bd.bytes
  have hml : c.maxLocals = 9 := hml0
  have hown : s.vm.findClass "com/example/pivotline/pivotline/Pseudocosts" = some m.cls := findClass_of_methodNamed Bd.named
  have hnm := (name_of_methodNamed Bd.named Bd.method).1
  have X0 : Stand p l e ({ frames := 1, cells := 0, slots := 0, locals := 15 } : Room) s m #[(.ref po), (.int cl), (.int up), (.double dist), (.double rise)] below meth c s₁ [] 0 0 := Stand.of_body Bd
  have e0 : s₁.heap = h0 := by rw [← hh, Bd.state]; rfl
  have N0 := Fr.nil n0
  have pre0 : ∀ t, Steps p.tables e below (s₁.setTop (mkF m 0 #[.val (.ref po), .val (.int cl), .val (.int up), .val (.double dist), .second, .val (.double rise), .second, .unset, .unset] [])) t → Steps p.tables e below (s₁.setTop (entryFrame m #[(.ref po), (.int cl), (.int up), (.double dist), (.double rise)] 9)) t := fun t k => castTop (ef_6 m po cl up dist rise) k
  obtain ⟨S0, hS0⟩ : ∃ z, z = s₁.setTop (mkF m 0 #[.val (.ref po), .val (.int cl), .val (.int up), .val (.double dist), .second, .val (.double rise), .second, .unset, .unset] []) := ⟨_, rfl⟩
  have r0 : Steps p.tables e below S0 (s₁.setTop (mkF m 0 #[.val (.ref po), .val (.int cl), .val (.int up), .val (.double dist), .second, .val (.double rise), .second, .unset, .unset] [])) := by rw [hS0]; exact Steps.refl _
  obtain ⟨ds, us, dc, uc, ads, aus, adc, auc, ⟨Epo, Fds, Fus, Fdc, Fuc, Fads, Faus, Fadc, Fauc⟩, ⟨Gds, Gus, Gdc, Guc⟩, ⟨g_po, g_a1, g_a2, g_a3, g_a4⟩, ⟨q01, q02, q03, q04, q12, q13, q14, q23, q24, q34⟩, ⟨yds, yus, hdc, huc, yads, yaus, hadc, hauc⟩⟩ := hPS
  obtain ⟨hc0, hc2⟩ := cl_ok hcl
  have K0 := Keep.refl h0 [po, a1, a2, a3, a4]
  have r24 : Steps p.tables e below S0 (s₁.setTop (mkF m 3 #[.val (.ref po), .val (.int cl), .val (.int up), .val (.double dist), .second, .val (.double rise), .second, .unset, .unset] [(.double FP.dconst0), (.double rise)])) := by
    refine r0.trans ?_
    show Steps p.tables e below (s₁.setTop (mkF m 0 #[.val (.ref po), .val (.int cl), .val (.int up), .val (.double dist), .second, .val (.double rise), .second, .unset, .unset] [])) _
    refine XS.dload X0.here hx rfl (hb hby d6_0) rfl ?_
    show Steps p.tables e below (s₁.setTop (mkF m 2 #[.val (.ref po), .val (.int cl), .val (.int up), .val (.double dist), .second, .val (.double rise), .second, .unset, .unset] [(.double rise)])) _
    refine XS.dconst0 X0.here hx rfl (hb hby d6_2) rfl ?_
    exact Steps.refl _
  obtain ⟨mx, hmx⟩ : ∃ z, Jvm.Native.java_lang_Math.nans.pick64 true rise FP.dconst0 = z := ⟨_, rfl⟩
  obtain ⟨T25, X25, e25, st25⟩ := natS X0 hx hZ (y := (⟨"java/lang/Math", "max", "(DD)D"⟩ : MethodName)) hown (hw _ (List.mem_of_getElem? (i := 40) rfl)) (hw _ (List.mem_of_getElem? (i := 41) rfl)) (hw _ (List.mem_of_getElem? (i := 42) rfl)) (hw _ (List.mem_of_getElem? (i := 43) rfl)) (by decide) e0 (W := 0) (F := fun a' => a' = #[.double rise, .double FP.dconst0] ∧ NoNaN64 rise ∧ NoNaN64 FP.dconst0) (val' := .double mx) (fun c4 => Jvm.Free.Fl.Abs.maxD_pays rise FP.dconst0 c4 (by decide) (by decide)) (g := (mkF m 3 #[.val (.ref po), .val (.int cl), .val (.int up), .val (.double dist), .second, .val (.double rise), .second, .unset, .unset] [(.double FP.dconst0), (.double rise)])) rfl (by rw [hml]; rfl) (argsL := [(.double rise), (.double FP.dconst0)]) (rest := []) (lenOf pd_0 rfl) rfl (by show 2 * 0 + _ ≤ _; exact Nat.le_of_eq rfl) (hb hby d6_3) (by decide) (by decide) ⟨rfl, yr.noNaN, dy_zero.noNaN⟩ (congrArg Value.double hmx)
  have r26 : Steps p.tables e below S0 (T25.setTop (mkF m 6 #[.val (.ref po), .val (.int cl), .val (.int up), .val (.double dist), .second, .val (.double rise), .second, .unset, .unset] [(.double mx)])) := r24.trans (st25 _ (Steps.refl _))
  have ymx : Dy (max ri 0 * 8) 3 mx := hmx ▸ (yr.maxz.scale 3).cast (by rfl) rfl
  have yS := yus cl.toNatClampNeg hc2
  have hC := huc cl.toNatClampNeg hc2
  obtain ⟨pu, hpu⟩ : ∃ z, FP.ddiv mx dist = z := ⟨_, rfl⟩
  have ypu : Dy P 3 pu := hpu ▸ (ymx.div yd hd hP (by omega) (by decide))
  have r27 : Steps p.tables e below S0 (T25.setTop (mkF m 15 #[.val (.ref po), .val (.int cl), .val (.int up), .val (.double dist), .second, .val (.double rise), .second, .val (.double pu), .second] [(.ref po)])) := by
    refine r26.trans ?_
    show Steps p.tables e below (T25.setTop (mkF m 6 #[.val (.ref po), .val (.int cl), .val (.int up), .val (.double dist), .second, .val (.double rise), .second, .unset, .unset] [(.double mx)])) _
    refine XS.dloadN X25.here hx rfl (hb hby d6_6) rfl ?_
    show Steps p.tables e below (T25.setTop (mkF m 7 #[.val (.ref po), .val (.int cl), .val (.int up), .val (.double dist), .second, .val (.double rise), .second, .unset, .unset] [(.double dist), (.double mx)])) _
    refine XS.ddivS X25.here hx rfl (hb hby d6_7) rfl (by rw [hpu]; exact ypu.noNaN) hpu ?_
    show Steps p.tables e below (T25.setTop (mkF m 8 #[.val (.ref po), .val (.int cl), .val (.int up), .val (.double dist), .second, .val (.double rise), .second, .unset, .unset] [(.double pu)])) _
    refine XS.dstore X25.here hx rfl (hb hby d6_8) rfl (l' := #[.val (.ref po), .val (.int cl), .val (.int up), .val (.double dist), .second, .val (.double rise), .second, .val (.double pu), .second]) rfl ?_
    show Steps p.tables e below (T25.setTop (mkF m 10 #[.val (.ref po), .val (.int cl), .val (.int up), .val (.double dist), .second, .val (.double rise), .second, .val (.double pu), .second] [])) _
    refine XS.iloadN X25.here hx rfl (hb hby d6_10) rfl ?_
    show Steps p.tables e below (T25.setTop (mkF m 11 #[.val (.ref po), .val (.int cl), .val (.int up), .val (.double dist), .second, .val (.double rise), .second, .val (.double pu), .second] [(.int up)])) _
    refine XS.ifNo X25.here hx rfl (hb hby d6_11) rfl ((if0 _ _).trans (feq hup).1) ?_
    show Steps p.tables e below (T25.setTop (mkF m 14 #[.val (.ref po), .val (.int cl), .val (.int up), .val (.double dist), .second, .val (.double rise), .second, .val (.double pu), .second] [])) _
    refine XS.aloadN X25.here hx rfl (hb hby d6_14) rfl rfl ?_
    exact Steps.refl _
  obtain ⟨T28, X28, e28, st28⟩ := getF X25 hx hZ hown (host := "") (Or.inl (hw _ (List.mem_of_getElem? (i := 12) rfl))) Via.refl e25 Fus (g := (mkF m 15 #[.val (.ref po), .val (.int cl), .val (.int up), .val (.double dist), .second, .val (.double rise), .second, .val (.double pu), .second] [(.ref po)])) rfl rfl (hb hby d6_15)
  have r29 : Steps p.tables e below S0 (T28.setTop (mkF m 18 #[.val (.ref po), .val (.int cl), .val (.int up), .val (.double dist), .second, .val (.double rise), .second, .val (.double pu), .second] [(.ref a2)])) := r27.trans (st28 _ (Steps.refl _))
  obtain ⟨s1, hs1⟩ : ∃ z, FP.dadd (us cl.toNatClampNeg) pu = z := ⟨_, rfl⟩
  have ys1 : Dy (SU cl.toNatClampNeg + P) 3 s1 := hs1 ▸ (yS.add ypu (by omega) (by decide))
  have r30 : Steps p.tables e below S0 (T28.setTop (mkF m 24 #[.val (.ref po), .val (.int cl), .val (.int up), .val (.double dist), .second, .val (.double rise), .second, .val (.double pu), .second] [(.double s1), (.int cl), (.ref a2)])) := by
    refine r29.trans ?_
    show Steps p.tables e below (T28.setTop (mkF m 18 #[.val (.ref po), .val (.int cl), .val (.int up), .val (.double dist), .second, .val (.double rise), .second, .val (.double pu), .second] [(.ref a2)])) _
    refine XS.iloadN X28.here hx rfl (hb hby d6_18) rfl ?_
    show Steps p.tables e below (T28.setTop (mkF m 19 #[.val (.ref po), .val (.int cl), .val (.int up), .val (.double dist), .second, .val (.double rise), .second, .val (.double pu), .second] [(.int cl), (.ref a2)])) _
    refine Jvm.Free.XT.dup2 X28.here hx rfl (hb hby d6_19) rfl rfl rfl ?_
    show Steps p.tables e below (T28.setTop (mkF m 20 #[.val (.ref po), .val (.int cl), .val (.int up), .val (.double dist), .second, .val (.double rise), .second, .val (.double pu), .second] [(.int cl), (.ref a2), (.int cl), (.ref a2)])) _
    refine ldD X28 hx hZ e28 Gus (j := cl) hc0 hc2 (v := (.double (us cl.toNatClampNeg))) rfl (g := (mkF m 20 #[.val (.ref po), .val (.int cl), .val (.int up), .val (.double dist), .second, .val (.double rise), .second, .val (.double pu), .second] [(.int cl), (.ref a2), (.int cl), (.ref a2)])) rfl rfl (hb hby d6_20) _ ?_
    show Steps p.tables e below (T28.setTop (mkF m 21 #[.val (.ref po), .val (.int cl), .val (.int up), .val (.double dist), .second, .val (.double rise), .second, .val (.double pu), .second] [(.double (us cl.toNatClampNeg)), (.int cl), (.ref a2)])) _
    refine XS.dload X28.here hx rfl (hb hby d6_21) rfl ?_
    show Steps p.tables e below (T28.setTop (mkF m 23 #[.val (.ref po), .val (.int cl), .val (.int up), .val (.double dist), .second, .val (.double rise), .second, .val (.double pu), .second] [(.double pu), (.double (us cl.toNatClampNeg)), (.int cl), (.ref a2)])) _
    refine XS.daddS X28.here hx rfl (hb hby d6_23) rfl (by rw [hs1]; exact ys1.noNaN) hs1 ?_
    exact Steps.refl _
  obtain ⟨T31, h31, X31, e31, W31, st31⟩ := stDG X28 hx hZ e28 Gus (j := cl) hc0 hc2 (g := (mkF m 24 #[.val (.ref po), .val (.int cl), .val (.int up), .val (.double dist), .second, .val (.double rise), .second, .val (.double pu), .second] [(.double s1), (.int cl), (.ref a2)])) rfl rfl (hb hby d6_24)
  have N31 := Fr.snoc X31 N0 g_a2
  have G31_a1 := Gds.other W31 q12
  have G31_a2 := Gus.set W31
  have G31_a3 := Gdc.other W31 (Ne.symm q23)
  have G31_a4 := Guc.other W31 (Ne.symm q24)
  have F31_po_downSum := Fds.other W31 (Or.inl q02)
  have F31_po_upSum := Fus.other W31 (Or.inl q02)
  have F31_po_downCount := Fdc.other W31 (Or.inl q02)
  have F31_po_upCount := Fuc.other W31 (Or.inl q02)
  have F31_po_allDownSum := Fads.other W31 (Or.inl q02)
  have F31_po_allUpSum := Faus.other W31 (Or.inl q02)
  have F31_po_allDownCount := Fadc.other W31 (Or.inl q02)
  have F31_po_allUpCount := Fauc.other W31 (Or.inl q02)
  have E31_po := Epo.wr W31
  have Z31 : n0 ≤ h31.size := Nat.le_trans Z0 (Nat.le_of_eq W31.size.symm)
  have K31 := K0.wr W31 (Or.inl (List.mem_of_getElem? (i := 2) rfl))
  have r32 : Steps p.tables e below S0 (T31.setTop (mkF m 25 #[.val (.ref po), .val (.int cl), .val (.int up), .val (.double dist), .second, .val (.double rise), .second, .val (.double pu), .second] [])) := r30.trans (st31 _ (Steps.refl _))
  have r33 : Steps p.tables e below S0 (T31.setTop (mkF m 26 #[.val (.ref po), .val (.int cl), .val (.int up), .val (.double dist), .second, .val (.double rise), .second, .val (.double pu), .second] [(.ref po)])) := by
    refine r32.trans ?_
    show Steps p.tables e below (T31.setTop (mkF m 25 #[.val (.ref po), .val (.int cl), .val (.int up), .val (.double dist), .second, .val (.double rise), .second, .val (.double pu), .second] [])) _
    refine XS.aloadN X31.here hx rfl (hb hby d6_25) rfl rfl ?_
    exact Steps.refl _
  obtain ⟨T34, X34, e34, st34⟩ := getF X31 hx hZ hown (host := "") (Or.inl (hw _ (List.mem_of_getElem? (i := 17) rfl))) Via.refl e31 F31_po_upCount (g := (mkF m 26 #[.val (.ref po), .val (.int cl), .val (.int up), .val (.double dist), .second, .val (.double rise), .second, .val (.double pu), .second] [(.ref po)])) rfl rfl (hb hby d6_26)
  have r35 : Steps p.tables e below S0 (T34.setTop (mkF m 29 #[.val (.ref po), .val (.int cl), .val (.int up), .val (.double dist), .second, .val (.double rise), .second, .val (.double pu), .second] [(.ref a4)])) := r33.trans (st34 _ (Steps.refl _))
  have r36 : Steps p.tables e below S0 (T34.setTop (mkF m 34 #[.val (.ref po), .val (.int cl), .val (.int up), .val (.double dist), .second, .val (.double rise), .second, .val (.double pu), .second] [(.int ((uc cl.toNatClampNeg) + (1 : Int32))), (.int cl), (.ref a4)])) := by
    refine r35.trans ?_
    show Steps p.tables e below (T34.setTop (mkF m 29 #[.val (.ref po), .val (.int cl), .val (.int up), .val (.double dist), .second, .val (.double rise), .second, .val (.double pu), .second] [(.ref a4)])) _
    refine XS.iloadN X34.here hx rfl (hb hby d6_29) rfl ?_
    show Steps p.tables e below (T34.setTop (mkF m 30 #[.val (.ref po), .val (.int cl), .val (.int up), .val (.double dist), .second, .val (.double rise), .second, .val (.double pu), .second] [(.int cl), (.ref a4)])) _
    refine Jvm.Free.XT.dup2 X34.here hx rfl (hb hby d6_30) rfl rfl rfl ?_
    show Steps p.tables e below (T34.setTop (mkF m 31 #[.val (.ref po), .val (.int cl), .val (.int up), .val (.double dist), .second, .val (.double rise), .second, .val (.double pu), .second] [(.int cl), (.ref a4), (.int cl), (.ref a4)])) _
    refine ldI X34 hx hZ e34 G31_a4 (j := cl) hc0 hc2 (v := (.int (uc cl.toNatClampNeg))) rfl (g := (mkF m 31 #[.val (.ref po), .val (.int cl), .val (.int up), .val (.double dist), .second, .val (.double rise), .second, .val (.double pu), .second] [(.int cl), (.ref a4), (.int cl), (.ref a4)])) rfl rfl (hb hby d6_31) _ ?_
    show Steps p.tables e below (T34.setTop (mkF m 32 #[.val (.ref po), .val (.int cl), .val (.int up), .val (.double dist), .second, .val (.double rise), .second, .val (.double pu), .second] [(.int (uc cl.toNatClampNeg)), (.int cl), (.ref a4)])) _
    refine XS.iconst X34.here hx rfl (hb hby d6_32) ?_
    show Steps p.tables e below (T34.setTop (mkF m 33 #[.val (.ref po), .val (.int cl), .val (.int up), .val (.double dist), .second, .val (.double rise), .second, .val (.double pu), .second] [(.int (1 : Int32)), (.int (uc cl.toNatClampNeg)), (.int cl), (.ref a4)])) _
    refine XS.iadd X34.here hx rfl (hb hby d6_33) rfl ?_
    exact Steps.refl _
  obtain ⟨T37, h37, X37, e37, W37, st37⟩ := stIG X34 hx hZ e34 G31_a4 (j := cl) hc0 hc2 (g := (mkF m 34 #[.val (.ref po), .val (.int cl), .val (.int up), .val (.double dist), .second, .val (.double rise), .second, .val (.double pu), .second] [(.int ((uc cl.toNatClampNeg) + (1 : Int32))), (.int cl), (.ref a4)])) rfl rfl (hb hby d6_34)
  have N37 := Fr.snoc X37 N31 g_a4
  have G37_a1 := G31_a1.other W37 q14
  have G37_a2 := G31_a2.other W37 q24
  have G37_a3 := G31_a3.other W37 q34
  have G37_a4 := G31_a4.set W37
  have F37_po_downSum := F31_po_downSum.other W37 (Or.inl q04)
  have F37_po_upSum := F31_po_upSum.other W37 (Or.inl q04)
  have F37_po_downCount := F31_po_downCount.other W37 (Or.inl q04)
  have F37_po_upCount := F31_po_upCount.other W37 (Or.inl q04)
  have F37_po_allDownSum := F31_po_allDownSum.other W37 (Or.inl q04)
  have F37_po_allUpSum := F31_po_allUpSum.other W37 (Or.inl q04)
  have F37_po_allDownCount := F31_po_allDownCount.other W37 (Or.inl q04)
  have F37_po_allUpCount := F31_po_allUpCount.other W37 (Or.inl q04)
  have E37_po := E31_po.wr W37
  have Z37 : n0 ≤ h37.size := Nat.le_trans Z31 (Nat.le_of_eq W37.size.symm)
  have K37 := K31.wr W37 (Or.inl (List.mem_of_getElem? (i := 4) rfl))
  have r38 : Steps p.tables e below S0 (T37.setTop (mkF m 35 #[.val (.ref po), .val (.int cl), .val (.int up), .val (.double dist), .second, .val (.double rise), .second, .val (.double pu), .second] [])) := r36.trans (st37 _ (Steps.refl _))
  have r39 : Steps p.tables e below S0 (T37.setTop (mkF m 37 #[.val (.ref po), .val (.int cl), .val (.int up), .val (.double dist), .second, .val (.double rise), .second, .val (.double pu), .second] [(.ref po), (.ref po)])) := by
    refine r38.trans ?_
    show Steps p.tables e below (T37.setTop (mkF m 35 #[.val (.ref po), .val (.int cl), .val (.int up), .val (.double dist), .second, .val (.double rise), .second, .val (.double pu), .second] [])) _
    refine XS.aloadN X37.here hx rfl (hb hby d6_35) rfl rfl ?_
    show Steps p.tables e below (T37.setTop (mkF m 36 #[.val (.ref po), .val (.int cl), .val (.int up), .val (.double dist), .second, .val (.double rise), .second, .val (.double pu), .second] [(.ref po)])) _
    refine XS.dup X37.here hx rfl (hb hby d6_36) rfl rfl ?_
    exact Steps.refl _
  obtain ⟨T40, X40, e40, st40⟩ := getF X37 hx hZ hown (host := "") (Or.inl (hw _ (List.mem_of_getElem? (i := 44) rfl))) Via.refl e37 F37_po_allUpSum (g := (mkF m 37 #[.val (.ref po), .val (.int cl), .val (.int up), .val (.double dist), .second, .val (.double rise), .second, .val (.double pu), .second] [(.ref po), (.ref po)])) rfl rfl (hb hby d6_37)
  have r41 : Steps p.tables e below S0 (T40.setTop (mkF m 40 #[.val (.ref po), .val (.int cl), .val (.int up), .val (.double dist), .second, .val (.double rise), .second, .val (.double pu), .second] [(.double aus), (.ref po)])) := r39.trans (st40 _ (Steps.refl _))
  obtain ⟨s2, hs2⟩ : ∃ z, FP.dadd aus pu = z := ⟨_, rfl⟩
  have ys2 : Dy (AU + P) 3 s2 := hs2 ▸ (yaus.add ypu (by omega) (by decide))
  have r42 : Steps p.tables e below S0 (T40.setTop (mkF m 43 #[.val (.ref po), .val (.int cl), .val (.int up), .val (.double dist), .second, .val (.double rise), .second, .val (.double pu), .second] [(.double s2), (.ref po)])) := by
    refine r41.trans ?_
    show Steps p.tables e below (T40.setTop (mkF m 40 #[.val (.ref po), .val (.int cl), .val (.int up), .val (.double dist), .second, .val (.double rise), .second, .val (.double pu), .second] [(.double aus), (.ref po)])) _
    refine XS.dload X40.here hx rfl (hb hby d6_40) rfl ?_
    show Steps p.tables e below (T40.setTop (mkF m 42 #[.val (.ref po), .val (.int cl), .val (.int up), .val (.double dist), .second, .val (.double rise), .second, .val (.double pu), .second] [(.double pu), (.double aus), (.ref po)])) _
    refine XS.daddS X40.here hx rfl (hb hby d6_42) rfl (by rw [hs2]; exact ys2.noNaN) hs2 ?_
    exact Steps.refl _
  obtain ⟨T43, h43, X43, e43, W43, st43⟩ := putF X40 hx hZ hown (host := "") (Or.inl (hw _ (List.mem_of_getElem? (i := 44) rfl))) Via.refl e40 F37_po_allUpSum E37_po (Or.inl (hw _ (List.mem_of_getElem? (i := 45) rfl))) (hw _ (List.mem_of_getElem? (i := 1) rfl)) (ty := .double) (by decide) rfl rfl (g := (mkF m 43 #[.val (.ref po), .val (.int cl), .val (.int up), .val (.double dist), .second, .val (.double rise), .second, .val (.double pu), .second] [(.double s2), (.ref po)])) rfl rfl (hb hby d6_43)
  have N43 := Fr.snoc X43 N37 g_po
  have G43_a1 := G37_a1.other W43 (Ne.symm q01)
  have G43_a2 := G37_a2.other W43 (Ne.symm q02)
  have G43_a3 := G37_a3.other W43 (Ne.symm q03)
  have G43_a4 := G37_a4.other W43 (Ne.symm q04)
  have F43_po_downSum := F37_po_downSum.other W43 (Or.inr (slot_ne (a0 := a0) (Or.inr (hw _ (List.mem_of_getElem? (i := 11) rfl))) (Or.inl (hw _ (List.mem_of_getElem? (i := 45) rfl))) (by decide) (t := (.array .double)) (t' := .double) (by decide) (by decide)))
  have F43_po_upSum := F37_po_upSum.other W43 (Or.inr (slot_ne (a0 := a0) (Or.inr (hw _ (List.mem_of_getElem? (i := 13) rfl))) (Or.inl (hw _ (List.mem_of_getElem? (i := 45) rfl))) (by decide) (t := (.array .double)) (t' := .double) (by decide) (by decide)))
  have F43_po_downCount := F37_po_downCount.other W43 (Or.inr (slot_ne (a0 := a0) (Or.inr (hw _ (List.mem_of_getElem? (i := 16) rfl))) (Or.inl (hw _ (List.mem_of_getElem? (i := 45) rfl))) (by decide) (t := (.array .int)) (t' := .double) (by decide) (by decide)))
  have F43_po_upCount := F37_po_upCount.other W43 (Or.inr (slot_ne (a0 := a0) (Or.inr (hw _ (List.mem_of_getElem? (i := 18) rfl))) (Or.inl (hw _ (List.mem_of_getElem? (i := 45) rfl))) (by decide) (t := (.array .int)) (t' := .double) (by decide) (by decide)))
  have F43_po_allDownSum := F37_po_allDownSum.other W43 (Or.inr (slot_ne (a0 := a0) (Or.inl (hw _ (List.mem_of_getElem? (i := 25) rfl))) (Or.inl (hw _ (List.mem_of_getElem? (i := 45) rfl))) (by decide) (t := .double) (t' := .double) (by decide) (by decide)))
  have F43_po_allUpSum := F37_po_allUpSum.same W43
  have F43_po_allDownCount := F37_po_allDownCount.other W43 (Or.inr (slot_ne (a0 := a0) (Or.inl (hw _ (List.mem_of_getElem? (i := 27) rfl))) (Or.inl (hw _ (List.mem_of_getElem? (i := 45) rfl))) (by decide) (t := .long) (t' := .double) (by decide) (by decide)))
  have F43_po_allUpCount := F37_po_allUpCount.other W43 (Or.inr (slot_ne (a0 := a0) (Or.inl (hw _ (List.mem_of_getElem? (i := 47) rfl))) (Or.inl (hw _ (List.mem_of_getElem? (i := 45) rfl))) (by decide) (t := .long) (t' := .double) (by decide) (by decide)))
  have E43_po := E37_po.wr W43
  have Z43 : n0 ≤ h43.size := Nat.le_trans Z37 (Nat.le_of_eq W43.size.symm)
  have K43 := K37.wr W43 (Or.inl (List.mem_of_getElem? (i := 0) rfl))
  have r44 : Steps p.tables e below S0 (T43.setTop (mkF m 46 #[.val (.ref po), .val (.int cl), .val (.int up), .val (.double dist), .second, .val (.double rise), .second, .val (.double pu), .second] [])) := r42.trans (st43 _ (Steps.refl _))
  have r45 : Steps p.tables e below S0 (T43.setTop (mkF m 48 #[.val (.ref po), .val (.int cl), .val (.int up), .val (.double dist), .second, .val (.double rise), .second, .val (.double pu), .second] [(.ref po), (.ref po)])) := by
    refine r44.trans ?_
    show Steps p.tables e below (T43.setTop (mkF m 46 #[.val (.ref po), .val (.int cl), .val (.int up), .val (.double dist), .second, .val (.double rise), .second, .val (.double pu), .second] [])) _
    refine XS.aloadN X43.here hx rfl (hb hby d6_46) rfl rfl ?_
    show Steps p.tables e below (T43.setTop (mkF m 47 #[.val (.ref po), .val (.int cl), .val (.int up), .val (.double dist), .second, .val (.double rise), .second, .val (.double pu), .second] [(.ref po)])) _
    refine XS.dup X43.here hx rfl (hb hby d6_47) rfl rfl ?_
    exact Steps.refl _
  obtain ⟨T46, X46, e46, st46⟩ := getF X43 hx hZ hown (host := "") (Or.inl (hw _ (List.mem_of_getElem? (i := 46) rfl))) Via.refl e43 F43_po_allUpCount (g := (mkF m 48 #[.val (.ref po), .val (.int cl), .val (.int up), .val (.double dist), .second, .val (.double rise), .second, .val (.double pu), .second] [(.ref po), (.ref po)])) rfl rfl (hb hby d6_48)
  have r47 : Steps p.tables e below S0 (T46.setTop (mkF m 51 #[.val (.ref po), .val (.int cl), .val (.int up), .val (.double dist), .second, .val (.double rise), .second, .val (.double pu), .second] [(.long auc), (.ref po)])) := r45.trans (st46 _ (Steps.refl _))
  have r48 : Steps p.tables e below S0 (T46.setTop (mkF m 53 #[.val (.ref po), .val (.int cl), .val (.int up), .val (.double dist), .second, .val (.double rise), .second, .val (.double pu), .second] [(.long (auc + (1 : Int64))), (.ref po)])) := by
    refine r47.trans ?_
    show Steps p.tables e below (T46.setTop (mkF m 51 #[.val (.ref po), .val (.int cl), .val (.int up), .val (.double dist), .second, .val (.double rise), .second, .val (.double pu), .second] [(.long auc), (.ref po)])) _
    refine XS.lconst X46.here hx rfl (hb hby d6_51) ?_
    show Steps p.tables e below (T46.setTop (mkF m 52 #[.val (.ref po), .val (.int cl), .val (.int up), .val (.double dist), .second, .val (.double rise), .second, .val (.double pu), .second] [(.long (1 : Int64)), (.long auc), (.ref po)])) _
    refine XS.ladd X46.here hx rfl (hb hby d6_52) rfl ?_
    exact Steps.refl _
  obtain ⟨T49, h49, X49, e49, W49, st49⟩ := putF X46 hx hZ hown (host := "") (Or.inl (hw _ (List.mem_of_getElem? (i := 46) rfl))) Via.refl e46 F43_po_allUpCount E43_po (Or.inl (hw _ (List.mem_of_getElem? (i := 47) rfl))) (hw _ (List.mem_of_getElem? (i := 1) rfl)) (ty := .long) (by decide) rfl rfl (g := (mkF m 53 #[.val (.ref po), .val (.int cl), .val (.int up), .val (.double dist), .second, .val (.double rise), .second, .val (.double pu), .second] [(.long (auc + (1 : Int64))), (.ref po)])) rfl rfl (hb hby d6_53)
  have N49 := Fr.snoc X49 N43 g_po
  have G49_a1 := G43_a1.other W49 (Ne.symm q01)
  have G49_a2 := G43_a2.other W49 (Ne.symm q02)
  have G49_a3 := G43_a3.other W49 (Ne.symm q03)
  have G49_a4 := G43_a4.other W49 (Ne.symm q04)
  have F49_po_downSum := F43_po_downSum.other W49 (Or.inr (slot_ne (a0 := a0) (Or.inr (hw _ (List.mem_of_getElem? (i := 11) rfl))) (Or.inl (hw _ (List.mem_of_getElem? (i := 47) rfl))) (by decide) (t := (.array .double)) (t' := .long) (by decide) (by decide)))
  have F49_po_upSum := F43_po_upSum.other W49 (Or.inr (slot_ne (a0 := a0) (Or.inr (hw _ (List.mem_of_getElem? (i := 13) rfl))) (Or.inl (hw _ (List.mem_of_getElem? (i := 47) rfl))) (by decide) (t := (.array .double)) (t' := .long) (by decide) (by decide)))
  have F49_po_downCount := F43_po_downCount.other W49 (Or.inr (slot_ne (a0 := a0) (Or.inr (hw _ (List.mem_of_getElem? (i := 16) rfl))) (Or.inl (hw _ (List.mem_of_getElem? (i := 47) rfl))) (by decide) (t := (.array .int)) (t' := .long) (by decide) (by decide)))
  have F49_po_upCount := F43_po_upCount.other W49 (Or.inr (slot_ne (a0 := a0) (Or.inr (hw _ (List.mem_of_getElem? (i := 18) rfl))) (Or.inl (hw _ (List.mem_of_getElem? (i := 47) rfl))) (by decide) (t := (.array .int)) (t' := .long) (by decide) (by decide)))
  have F49_po_allDownSum := F43_po_allDownSum.other W49 (Or.inr (slot_ne (a0 := a0) (Or.inl (hw _ (List.mem_of_getElem? (i := 25) rfl))) (Or.inl (hw _ (List.mem_of_getElem? (i := 47) rfl))) (by decide) (t := .double) (t' := .long) (by decide) (by decide)))
  have F49_po_allUpSum := F43_po_allUpSum.other W49 (Or.inr (slot_ne (a0 := a0) (Or.inl (hw _ (List.mem_of_getElem? (i := 45) rfl))) (Or.inl (hw _ (List.mem_of_getElem? (i := 47) rfl))) (by decide) (t := .double) (t' := .long) (by decide) (by decide)))
  have F49_po_allDownCount := F43_po_allDownCount.other W49 (Or.inr (slot_ne (a0 := a0) (Or.inl (hw _ (List.mem_of_getElem? (i := 27) rfl))) (Or.inl (hw _ (List.mem_of_getElem? (i := 47) rfl))) (by decide) (t := .long) (t' := .long) (by decide) (by decide)))
  have F49_po_allUpCount := F43_po_allUpCount.same W49
  have E49_po := E43_po.wr W49
  have Z49 : n0 ≤ h49.size := Nat.le_trans Z43 (Nat.le_of_eq W49.size.symm)
  have K49 := K43.wr W49 (Or.inl (List.mem_of_getElem? (i := 0) rfl))
  have r50 : Steps p.tables e below S0 (T49.setTop (mkF m 56 #[.val (.ref po), .val (.int cl), .val (.int up), .val (.double dist), .second, .val (.double rise), .second, .val (.double pu), .second] [])) := r48.trans (st49 _ (Steps.refl _))
  have e1 : (uc cl.toNatClampNeg + (1 : Int32)).toInt = CU cl.toNatClampNeg + 1 := by have q := c_iadd (uc cl.toNatClampNeg) 1; have := rng32 (uc cl.toNatClampNeg + (1 : Int32)); rw [show (1 : Int32).toInt = 1 by decide] at q; omega
  have e2 : (auc + (1 : Int64)).toInt = NU + 1 := by have q := c_ladd auc 1; have := rng64 (auc + (1 : Int64)); rw [show (1 : Int64).toInt = 1 by decide] at q; omega
  have r51 : Steps p.tables e below S0 (T49.setTop (mkF m 101 #[.val (.ref po), .val (.int cl), .val (.int up), .val (.double dist), .second, .val (.double rise), .second, .val (.double pu), .second] [])) := by
    refine r50.trans ?_
    show Steps p.tables e below (T49.setTop (mkF m 56 #[.val (.ref po), .val (.int cl), .val (.int up), .val (.double dist), .second, .val (.double rise), .second, .val (.double pu), .second] [])) _
    refine XS.goto X49.here hx rfl (pc0 := 56) (pc' := 101) rfl (hb hby d6_56) (by decide) (by decide) ?_
    exact Steps.refl _
  obtain ⟨fs, hr, hrun, hended, hW, hsame⟩ := X49.leave (v := none) (fun _ => rfl)
  refine ⟨_, _, pre0 _ ?_, hrun, hended, _, _, rfl, ?_, ⟨_, rfl⟩, hW, hsame.mono (by decide) (by decide)⟩
  · rw [← hS0]
    refine r51.trans ?_
    show Steps p.tables e below (T49.setTop (mkF m 101 #[.val (.ref po), .val (.int cl), .val (.int up), .val (.double dist), .second, .val (.double rise), .second, .val (.double pu), .second] [])) _
    exact X49.returnOut hx Bd.returns (hb hby d6_101) hr
  · show QmRu Z po cl up dist rise a1 a2 a3 a4 SD SU CD CU AD AU ND NU ri dst P h0 n0 _ T49.heap _; rw [e49]; exact ⟨rfl, N49, K49, ⟨ds, (fun i => if i = cl.toNatClampNeg then s1 else us i), dc, (fun i => if i = cl.toNatClampNeg then uc cl.toNatClampNeg + (1 : Int32) else uc i), ads, s2, adc, auc + (1 : Int64), ⟨E49_po, F49_po_downSum, F49_po_upSum, F49_po_downCount, F49_po_upCount, F49_po_allDownSum, F49_po_allUpSum, F49_po_allDownCount, F49_po_allUpCount⟩, ⟨G49_a1, G49_a2.congr (fun i _ => by dsimp only; split <;> rfl), G49_a3, G49_a4.congr (fun i _ => by dsimp only; split <;> rfl)⟩, ⟨g_po, g_a1, g_a2, g_a3, g_a4⟩, ⟨q01, q02, q03, q04, q12, q13, q14, q23, q24, q34⟩, ⟨yds, (fun i hi => by
        show Dy (if i = cl.toNatClampNeg then SU i + P else SU i) 3 (if i = cl.toNatClampNeg then s1 else us i)
        by_cases z : i = cl.toNatClampNeg
        · rw [if_pos z, if_pos z, z]; exact ys1
        · rw [if_neg z, if_neg z]; exact yus i hi), hdc, (fun i hi => by
        show (if i = cl.toNatClampNeg then uc cl.toNatClampNeg + (1 : Int32) else uc i).toInt = (if i = cl.toNatClampNeg then CU i + 1 else CU i)
        by_cases z : i = cl.toNatClampNeg
        · rw [if_pos z, if_pos z, z]; exact e1
        · rw [if_neg z, if_neg z]; exact huc i hi), yads, ys2, hadc, e2⟩⟩⟩
def QmRd (Z : State) (po : Addr) (cl : Int32) (up : Int32) (dist : UInt64) (rise : UInt64) (a1 : Addr) (a2 : Addr) (a3 : Addr) (a4 : Addr) (SD : Nat → Int) (SU : Nat → Int) (CD : Nat → Int) (CU : Nat → Int) (AD : Int) (AU : Int) (ND : Int) (NU : Int) (ri : Int) (dst : Int) (P : Int) (h0 : Heap) (n0 : Nat) (v : Option Value) (h : Heap) (L : List Loc) : Prop := v = none ∧ Fr n0 L ∧ Keep h0 h [po, a1, a2, a3, a4] ∧ PS Z h n0 po a1 a2 a3 a4 (upd SD cl.toNatClampNeg P) SU (upd CD cl.toNatClampNeg 1) CU (AD + P) AU (ND + 1) NU
set_option maxRecDepth 65536 in
set_option maxHeartbeats 40000000 in
theorem rmRd (l : Launch) (Z : State) (a0 : Array Value) (hw : ∀ d ∈ tables_1, d.before a0 Z = true) (ws : List Jvm.Cond) (po : Addr) (cl : Int32) (up : Int32) (dist : UInt64) (rise : UInt64) (a1 : Addr) (a2 : Addr) (a3 : Addr) (a4 : Addr) (SD : Nat → Int) (SU : Nat → Int) (CD : Nat → Int) (CU : Nat → Int) (AD : Int) (AU : Int) (ND : Int) (NU : Int) (ri : Int) (dst : Int) (P : Int) (h0 : Heap) (n0 : Nat) (Z0 : n0 ≤ h0.size) (hPS : PS Z h0 n0 po a1 a2 a3 a4 SD SU CD CU AD AU ND NU) (hcl : cl = 0 ∨ cl = 1) (hup : up = 0) (yd : Dy dst 0 dist) (yr : Dy ri 0 rise) (hd : 0 < dst) (hP : max ri 0 * 8 = P * dst) (hP2 : P.natAbs ≤ 1000000) (bS : (SD cl.toNatClampNeg).natAbs ≤ 1000000000) (bA : AD.natAbs ≤ 1000000000) (bC : (CD cl.toNatClampNeg).natAbs ≤ 1000000) (bN : ND.natAbs ≤ 1000000) :
    MetFree l (⟨"com/example/pivotline/pivotline/Pseudocosts", "record", "(IZDD)V"⟩ : MethodName) (head1 (Jvm.Cond.code (⟨"com/example/pivotline/pivotline/Pseudocosts", "record", "(IZDD)V"⟩ : MethodName) prog_24_method_2_code 9 none :: ws) ({ frames := 1, cells := 0, slots := 0, locals := 15 } : Room)) (fun a U => a = #[(.ref po), (.int cl), (.int up), (.double dist), (.double rise)] ∧ Z.Warmed39 U.vm ∧ U.heap = h0) (fun _ _ _ _ _ => True) (fun _ U o U' => ∃ v L, o = .returned v ∧ QmRd Z po cl up dist rise a1 a2 a3 a4 SD SU CD CU AD AU ND NU ri dst P h0 n0 v U'.heap L ∧ FrameEnd U o U' L ({ frames := 1, cells := 0, slots := 0, locals := 15 } : Room).cells ({ frames := 1, cells := 0, slots := 0, locals := 15 } : Room).slots) := by
  refine MetFree.of_bodySF (plainFor_of_name pn_6) hisR ?_
  intro p e s m args below meth c s₁ Bd hml0 hP hK
  obtain ⟨rfl, hZ, hh⟩ := hP
  have hx := Bd.exec
  have hby := Bd.bytes
  have hml : c.maxLocals = 9 := hml0
  have hown : s.vm.findClass "com/example/pivotline/pivotline/Pseudocosts" = some m.cls := findClass_of_methodNamed Bd.named
  have hnm := (name_of_methodNamed Bd.named Bd.method).1
  have X0 : Stand p l e ({ frames := 1, cells := 0, slots := 0, locals := 15 } : Room) s m #[(.ref po), (.int cl), (.int up), (.double dist), (.double rise)] below meth c s₁ [] 0 0 := Stand.of_body Bd
  have e0 : s₁.heap = h0 := by rw [← hh, Bd.state]; rfl
  have N0 := Fr.nil n0
  have pre0 : ∀ t, Steps p.tables e below (s₁.setTop (mkF m 0 #[.val (.ref po), .val (.int cl), .val (.int up), .val (.double dist), .second, .val (.double rise), .second, .unset, .unset] [])) t → Steps p.tables e below (s₁.setTop (entryFrame m #[(.ref po), (.int cl), (.int up), (.double dist), (.double rise)] 9)) t := fun t k => castTop (ef_6 m po cl up dist rise) k
  obtain ⟨S0, hS0⟩ : ∃ z, z = s₁.setTop (mkF m 0 #[.val (.ref po), .val (.int cl), .val (.int up), .val (.double dist), .second, .val (.double rise), .second, .unset, .unset] []) := ⟨_, rfl⟩
  have r0 : Steps p.tables e below S0 (s₁.setTop (mkF m 0 #[.val (.ref po), .val (.int cl), .val (.int up), .val (.double dist), .second, .val (.double rise), .second, .unset, .unset] [])) := by rw [hS0]; exact Steps.refl _
  obtain ⟨ds, us, dc, uc, ads, aus, adc, auc, ⟨Epo, Fds, Fus, Fdc, Fuc, Fads, Faus, Fadc, Fauc⟩, ⟨Gds, Gus, Gdc, Guc⟩, ⟨g_po, g_a1, g_a2, g_a3, g_a4⟩, ⟨q01, q02, q03, q04, q12, q13, q14, q23, q24, q34⟩, ⟨yds, yus, hdc, huc, yads, yaus, hadc, hauc⟩⟩ := hPS
  obtain ⟨hc0, hc2⟩ := cl_ok hcl
  have K0 := Keep.refl h0 [po, a1, a2, a3, a4]
  have r52 : Steps p.tables e below S0 (s₁.setTop (mkF m 3 #[.val (.ref po), .val (.int cl), .val (.int up), .val (.double dist), .second, .val (.double rise), .second, .unset, .unset] [(.double FP.dconst0), (.double rise)])) := by
    refine r0.trans ?_
    show Steps p.tables e below (s₁.setTop (mkF m 0 #[.val (.ref po), .val (.int cl), .val (.int up), .val (.double dist), .second, .val (.double rise), .second, .unset, .unset] [])) _
    refine XS.dload X0.here hx rfl (hb hby d6_0) rfl ?_
    show Steps p.tables e below (s₁.setTop (mkF m 2 #[.val (.ref po), .val (.int cl), .val (.int up), .val (.double dist), .second, .val (.double rise), .second, .unset, .unset] [(.double rise)])) _
    refine XS.dconst0 X0.here hx rfl (hb hby d6_2) rfl ?_
    exact Steps.refl _
  obtain ⟨mx, hmx⟩ : ∃ z, Jvm.Native.java_lang_Math.nans.pick64 true rise FP.dconst0 = z := ⟨_, rfl⟩
  obtain ⟨T53, X53, e53, st53⟩ := natS X0 hx hZ (y := (⟨"java/lang/Math", "max", "(DD)D"⟩ : MethodName)) hown (hw _ (List.mem_of_getElem? (i := 40) rfl)) (hw _ (List.mem_of_getElem? (i := 41) rfl)) (hw _ (List.mem_of_getElem? (i := 42) rfl)) (hw _ (List.mem_of_getElem? (i := 43) rfl)) (by decide) e0 (W := 0) (F := fun a' => a' = #[.double rise, .double FP.dconst0] ∧ NoNaN64 rise ∧ NoNaN64 FP.dconst0) (val' := .double mx) (fun c4 => Jvm.Free.Fl.Abs.maxD_pays rise FP.dconst0 c4 (by decide) (by decide)) (g := (mkF m 3 #[.val (.ref po), .val (.int cl), .val (.int up), .val (.double dist), .second, .val (.double rise), .second, .unset, .unset] [(.double FP.dconst0), (.double rise)])) rfl (by rw [hml]; rfl) (argsL := [(.double rise), (.double FP.dconst0)]) (rest := []) (lenOf pd_0 rfl) rfl (by show 2 * 0 + _ ≤ _; exact Nat.le_of_eq rfl) (hb hby d6_3) (by decide) (by decide) ⟨rfl, yr.noNaN, dy_zero.noNaN⟩ (congrArg Value.double hmx)
  have r54 : Steps p.tables e below S0 (T53.setTop (mkF m 6 #[.val (.ref po), .val (.int cl), .val (.int up), .val (.double dist), .second, .val (.double rise), .second, .unset, .unset] [(.double mx)])) := r52.trans (st53 _ (Steps.refl _))
  have ymx : Dy (max ri 0 * 8) 3 mx := hmx ▸ (yr.maxz.scale 3).cast (by rfl) rfl
  have yS := yds cl.toNatClampNeg hc2
  have hC := hdc cl.toNatClampNeg hc2
  obtain ⟨pu, hpu⟩ : ∃ z, FP.ddiv mx dist = z := ⟨_, rfl⟩
  have ypu : Dy P 3 pu := hpu ▸ (ymx.div yd hd hP (by omega) (by decide))
  have r55 : Steps p.tables e below S0 (T53.setTop (mkF m 60 #[.val (.ref po), .val (.int cl), .val (.int up), .val (.double dist), .second, .val (.double rise), .second, .val (.double pu), .second] [(.ref po)])) := by
    refine r54.trans ?_
    show Steps p.tables e below (T53.setTop (mkF m 6 #[.val (.ref po), .val (.int cl), .val (.int up), .val (.double dist), .second, .val (.double rise), .second, .unset, .unset] [(.double mx)])) _
    refine XS.dloadN X53.here hx rfl (hb hby d6_6) rfl ?_
    show Steps p.tables e below (T53.setTop (mkF m 7 #[.val (.ref po), .val (.int cl), .val (.int up), .val (.double dist), .second, .val (.double rise), .second, .unset, .unset] [(.double dist), (.double mx)])) _
    refine XS.ddivS X53.here hx rfl (hb hby d6_7) rfl (by rw [hpu]; exact ypu.noNaN) hpu ?_
    show Steps p.tables e below (T53.setTop (mkF m 8 #[.val (.ref po), .val (.int cl), .val (.int up), .val (.double dist), .second, .val (.double rise), .second, .unset, .unset] [(.double pu)])) _
    refine XS.dstore X53.here hx rfl (hb hby d6_8) rfl (l' := #[.val (.ref po), .val (.int cl), .val (.int up), .val (.double dist), .second, .val (.double rise), .second, .val (.double pu), .second]) rfl ?_
    show Steps p.tables e below (T53.setTop (mkF m 10 #[.val (.ref po), .val (.int cl), .val (.int up), .val (.double dist), .second, .val (.double rise), .second, .val (.double pu), .second] [])) _
    refine XS.iloadN X53.here hx rfl (hb hby d6_10) rfl ?_
    show Steps p.tables e below (T53.setTop (mkF m 11 #[.val (.ref po), .val (.int cl), .val (.int up), .val (.double dist), .second, .val (.double rise), .second, .val (.double pu), .second] [(.int up)])) _
    refine XS.ifYes X53.here hx rfl (pc0 := 11) (pc' := 59) rfl (hb hby d6_11) rfl ((if0 _ _).trans (teq hup).1) (by decide) (by decide) ?_
    show Steps p.tables e below (T53.setTop (mkF m 59 #[.val (.ref po), .val (.int cl), .val (.int up), .val (.double dist), .second, .val (.double rise), .second, .val (.double pu), .second] [])) _
    refine XS.aloadN X53.here hx rfl (hb hby d6_59) rfl rfl ?_
    exact Steps.refl _
  obtain ⟨T56, X56, e56, st56⟩ := getF X53 hx hZ hown (host := "") (Or.inl (hw _ (List.mem_of_getElem? (i := 10) rfl))) Via.refl e53 Fds (g := (mkF m 60 #[.val (.ref po), .val (.int cl), .val (.int up), .val (.double dist), .second, .val (.double rise), .second, .val (.double pu), .second] [(.ref po)])) rfl rfl (hb hby d6_60)
  have r57 : Steps p.tables e below S0 (T56.setTop (mkF m 63 #[.val (.ref po), .val (.int cl), .val (.int up), .val (.double dist), .second, .val (.double rise), .second, .val (.double pu), .second] [(.ref a1)])) := r55.trans (st56 _ (Steps.refl _))
  obtain ⟨s1, hs1⟩ : ∃ z, FP.dadd (ds cl.toNatClampNeg) pu = z := ⟨_, rfl⟩
  have ys1 : Dy (SD cl.toNatClampNeg + P) 3 s1 := hs1 ▸ (yS.add ypu (by omega) (by decide))
  have r58 : Steps p.tables e below S0 (T56.setTop (mkF m 69 #[.val (.ref po), .val (.int cl), .val (.int up), .val (.double dist), .second, .val (.double rise), .second, .val (.double pu), .second] [(.double s1), (.int cl), (.ref a1)])) := by
    refine r57.trans ?_
    show Steps p.tables e below (T56.setTop (mkF m 63 #[.val (.ref po), .val (.int cl), .val (.int up), .val (.double dist), .second, .val (.double rise), .second, .val (.double pu), .second] [(.ref a1)])) _
    refine XS.iloadN X56.here hx rfl (hb hby d6_63) rfl ?_
    show Steps p.tables e below (T56.setTop (mkF m 64 #[.val (.ref po), .val (.int cl), .val (.int up), .val (.double dist), .second, .val (.double rise), .second, .val (.double pu), .second] [(.int cl), (.ref a1)])) _
    refine Jvm.Free.XT.dup2 X56.here hx rfl (hb hby d6_64) rfl rfl rfl ?_
    show Steps p.tables e below (T56.setTop (mkF m 65 #[.val (.ref po), .val (.int cl), .val (.int up), .val (.double dist), .second, .val (.double rise), .second, .val (.double pu), .second] [(.int cl), (.ref a1), (.int cl), (.ref a1)])) _
    refine ldD X56 hx hZ e56 Gds (j := cl) hc0 hc2 (v := (.double (ds cl.toNatClampNeg))) rfl (g := (mkF m 65 #[.val (.ref po), .val (.int cl), .val (.int up), .val (.double dist), .second, .val (.double rise), .second, .val (.double pu), .second] [(.int cl), (.ref a1), (.int cl), (.ref a1)])) rfl rfl (hb hby d6_65) _ ?_
    show Steps p.tables e below (T56.setTop (mkF m 66 #[.val (.ref po), .val (.int cl), .val (.int up), .val (.double dist), .second, .val (.double rise), .second, .val (.double pu), .second] [(.double (ds cl.toNatClampNeg)), (.int cl), (.ref a1)])) _
    refine XS.dload X56.here hx rfl (hb hby d6_66) rfl ?_
    show Steps p.tables e below (T56.setTop (mkF m 68 #[.val (.ref po), .val (.int cl), .val (.int up), .val (.double dist), .second, .val (.double rise), .second, .val (.double pu), .second] [(.double pu), (.double (ds cl.toNatClampNeg)), (.int cl), (.ref a1)])) _
    refine XS.daddS X56.here hx rfl (hb hby d6_68) rfl (by rw [hs1]; exact ys1.noNaN) hs1 ?_
    exact Steps.refl _
  obtain ⟨T59, h59, X59, e59, W59, st59⟩ := stDG X56 hx hZ e56 Gds (j := cl) hc0 hc2 (g := (mkF m 69 #[.val (.ref po), .val (.int cl), .val (.int up), .val (.double dist), .second, .val (.double rise), .second, .val (.double pu), .second] [(.double s1), (.int cl), (.ref a1)])) rfl rfl (hb hby d6_69)
  have N59 := Fr.snoc X59 N0 g_a1
  have G59_a1 := Gds.set W59
  have G59_a2 := Gus.other W59 (Ne.symm q12)
  have G59_a3 := Gdc.other W59 (Ne.symm q13)
  have G59_a4 := Guc.other W59 (Ne.symm q14)
  have F59_po_downSum := Fds.other W59 (Or.inl q01)
  have F59_po_upSum := Fus.other W59 (Or.inl q01)
  have F59_po_downCount := Fdc.other W59 (Or.inl q01)
  have F59_po_upCount := Fuc.other W59 (Or.inl q01)
  have F59_po_allDownSum := Fads.other W59 (Or.inl q01)
  have F59_po_allUpSum := Faus.other W59 (Or.inl q01)
  have F59_po_allDownCount := Fadc.other W59 (Or.inl q01)
  have F59_po_allUpCount := Fauc.other W59 (Or.inl q01)
  have E59_po := Epo.wr W59
  have Z59 : n0 ≤ h59.size := Nat.le_trans Z0 (Nat.le_of_eq W59.size.symm)
  have K59 := K0.wr W59 (Or.inl (List.mem_of_getElem? (i := 1) rfl))
  have r60 : Steps p.tables e below S0 (T59.setTop (mkF m 70 #[.val (.ref po), .val (.int cl), .val (.int up), .val (.double dist), .second, .val (.double rise), .second, .val (.double pu), .second] [])) := r58.trans (st59 _ (Steps.refl _))
  have r61 : Steps p.tables e below S0 (T59.setTop (mkF m 71 #[.val (.ref po), .val (.int cl), .val (.int up), .val (.double dist), .second, .val (.double rise), .second, .val (.double pu), .second] [(.ref po)])) := by
    refine r60.trans ?_
    show Steps p.tables e below (T59.setTop (mkF m 70 #[.val (.ref po), .val (.int cl), .val (.int up), .val (.double dist), .second, .val (.double rise), .second, .val (.double pu), .second] [])) _
    refine XS.aloadN X59.here hx rfl (hb hby d6_70) rfl rfl ?_
    exact Steps.refl _
  obtain ⟨T62, X62, e62, st62⟩ := getF X59 hx hZ hown (host := "") (Or.inl (hw _ (List.mem_of_getElem? (i := 15) rfl))) Via.refl e59 F59_po_downCount (g := (mkF m 71 #[.val (.ref po), .val (.int cl), .val (.int up), .val (.double dist), .second, .val (.double rise), .second, .val (.double pu), .second] [(.ref po)])) rfl rfl (hb hby d6_71)
  have r63 : Steps p.tables e below S0 (T62.setTop (mkF m 74 #[.val (.ref po), .val (.int cl), .val (.int up), .val (.double dist), .second, .val (.double rise), .second, .val (.double pu), .second] [(.ref a3)])) := r61.trans (st62 _ (Steps.refl _))
  have r64 : Steps p.tables e below S0 (T62.setTop (mkF m 79 #[.val (.ref po), .val (.int cl), .val (.int up), .val (.double dist), .second, .val (.double rise), .second, .val (.double pu), .second] [(.int ((dc cl.toNatClampNeg) + (1 : Int32))), (.int cl), (.ref a3)])) := by
    refine r63.trans ?_
    show Steps p.tables e below (T62.setTop (mkF m 74 #[.val (.ref po), .val (.int cl), .val (.int up), .val (.double dist), .second, .val (.double rise), .second, .val (.double pu), .second] [(.ref a3)])) _
    refine XS.iloadN X62.here hx rfl (hb hby d6_74) rfl ?_
    show Steps p.tables e below (T62.setTop (mkF m 75 #[.val (.ref po), .val (.int cl), .val (.int up), .val (.double dist), .second, .val (.double rise), .second, .val (.double pu), .second] [(.int cl), (.ref a3)])) _
    refine Jvm.Free.XT.dup2 X62.here hx rfl (hb hby d6_75) rfl rfl rfl ?_
    show Steps p.tables e below (T62.setTop (mkF m 76 #[.val (.ref po), .val (.int cl), .val (.int up), .val (.double dist), .second, .val (.double rise), .second, .val (.double pu), .second] [(.int cl), (.ref a3), (.int cl), (.ref a3)])) _
    refine ldI X62 hx hZ e62 G59_a3 (j := cl) hc0 hc2 (v := (.int (dc cl.toNatClampNeg))) rfl (g := (mkF m 76 #[.val (.ref po), .val (.int cl), .val (.int up), .val (.double dist), .second, .val (.double rise), .second, .val (.double pu), .second] [(.int cl), (.ref a3), (.int cl), (.ref a3)])) rfl rfl (hb hby d6_76) _ ?_
    show Steps p.tables e below (T62.setTop (mkF m 77 #[.val (.ref po), .val (.int cl), .val (.int up), .val (.double dist), .second, .val (.double rise), .second, .val (.double pu), .second] [(.int (dc cl.toNatClampNeg)), (.int cl), (.ref a3)])) _
    refine XS.iconst X62.here hx rfl (hb hby d6_77) ?_
    show Steps p.tables e below (T62.setTop (mkF m 78 #[.val (.ref po), .val (.int cl), .val (.int up), .val (.double dist), .second, .val (.double rise), .second, .val (.double pu), .second] [(.int (1 : Int32)), (.int (dc cl.toNatClampNeg)), (.int cl), (.ref a3)])) _
    refine XS.iadd X62.here hx rfl (hb hby d6_78) rfl ?_
    exact Steps.refl _
  obtain ⟨T65, h65, X65, e65, W65, st65⟩ := stIG X62 hx hZ e62 G59_a3 (j := cl) hc0 hc2 (g := (mkF m 79 #[.val (.ref po), .val (.int cl), .val (.int up), .val (.double dist), .second, .val (.double rise), .second, .val (.double pu), .second] [(.int ((dc cl.toNatClampNeg) + (1 : Int32))), (.int cl), (.ref a3)])) rfl rfl (hb hby d6_79)
  have N65 := Fr.snoc X65 N59 g_a3
  have G65_a1 := G59_a1.other W65 q13
  have G65_a2 := G59_a2.other W65 q23
  have G65_a3 := G59_a3.set W65
  have G65_a4 := G59_a4.other W65 (Ne.symm q34)
  have F65_po_downSum := F59_po_downSum.other W65 (Or.inl q03)
  have F65_po_upSum := F59_po_upSum.other W65 (Or.inl q03)
  have F65_po_downCount := F59_po_downCount.other W65 (Or.inl q03)
  have F65_po_upCount := F59_po_upCount.other W65 (Or.inl q03)
  have F65_po_allDownSum := F59_po_allDownSum.other W65 (Or.inl q03)
  have F65_po_allUpSum := F59_po_allUpSum.other W65 (Or.inl q03)
  have F65_po_allDownCount := F59_po_allDownCount.other W65 (Or.inl q03)
  have F65_po_allUpCount := F59_po_allUpCount.other W65 (Or.inl q03)
  have E65_po := E59_po.wr W65
  have Z65 : n0 ≤ h65.size := Nat.le_trans Z59 (Nat.le_of_eq W65.size.symm)
  have K65 := K59.wr W65 (Or.inl (List.mem_of_getElem? (i := 3) rfl))
  have r66 : Steps p.tables e below S0 (T65.setTop (mkF m 80 #[.val (.ref po), .val (.int cl), .val (.int up), .val (.double dist), .second, .val (.double rise), .second, .val (.double pu), .second] [])) := r64.trans (st65 _ (Steps.refl _))
  have r67 : Steps p.tables e below S0 (T65.setTop (mkF m 82 #[.val (.ref po), .val (.int cl), .val (.int up), .val (.double dist), .second, .val (.double rise), .second, .val (.double pu), .second] [(.ref po), (.ref po)])) := by
    refine r66.trans ?_
    show Steps p.tables e below (T65.setTop (mkF m 80 #[.val (.ref po), .val (.int cl), .val (.int up), .val (.double dist), .second, .val (.double rise), .second, .val (.double pu), .second] [])) _
    refine XS.aloadN X65.here hx rfl (hb hby d6_80) rfl rfl ?_
    show Steps p.tables e below (T65.setTop (mkF m 81 #[.val (.ref po), .val (.int cl), .val (.int up), .val (.double dist), .second, .val (.double rise), .second, .val (.double pu), .second] [(.ref po)])) _
    refine XS.dup X65.here hx rfl (hb hby d6_81) rfl rfl ?_
    exact Steps.refl _
  obtain ⟨T68, X68, e68, st68⟩ := getF X65 hx hZ hown (host := "") (Or.inl (hw _ (List.mem_of_getElem? (i := 24) rfl))) Via.refl e65 F65_po_allDownSum (g := (mkF m 82 #[.val (.ref po), .val (.int cl), .val (.int up), .val (.double dist), .second, .val (.double rise), .second, .val (.double pu), .second] [(.ref po), (.ref po)])) rfl rfl (hb hby d6_82)
  have r69 : Steps p.tables e below S0 (T68.setTop (mkF m 85 #[.val (.ref po), .val (.int cl), .val (.int up), .val (.double dist), .second, .val (.double rise), .second, .val (.double pu), .second] [(.double ads), (.ref po)])) := r67.trans (st68 _ (Steps.refl _))
  obtain ⟨s2, hs2⟩ : ∃ z, FP.dadd ads pu = z := ⟨_, rfl⟩
  have ys2 : Dy (AD + P) 3 s2 := hs2 ▸ (yads.add ypu (by omega) (by decide))
  have r70 : Steps p.tables e below S0 (T68.setTop (mkF m 88 #[.val (.ref po), .val (.int cl), .val (.int up), .val (.double dist), .second, .val (.double rise), .second, .val (.double pu), .second] [(.double s2), (.ref po)])) := by
    refine r69.trans ?_
    show Steps p.tables e below (T68.setTop (mkF m 85 #[.val (.ref po), .val (.int cl), .val (.int up), .val (.double dist), .second, .val (.double rise), .second, .val (.double pu), .second] [(.double ads), (.ref po)])) _
    refine XS.dload X68.here hx rfl (hb hby d6_85) rfl ?_
    show Steps p.tables e below (T68.setTop (mkF m 87 #[.val (.ref po), .val (.int cl), .val (.int up), .val (.double dist), .second, .val (.double rise), .second, .val (.double pu), .second] [(.double pu), (.double ads), (.ref po)])) _
    refine XS.daddS X68.here hx rfl (hb hby d6_87) rfl (by rw [hs2]; exact ys2.noNaN) hs2 ?_
    exact Steps.refl _
  obtain ⟨T71, h71, X71, e71, W71, st71⟩ := putF X68 hx hZ hown (host := "") (Or.inl (hw _ (List.mem_of_getElem? (i := 24) rfl))) Via.refl e68 F65_po_allDownSum E65_po (Or.inl (hw _ (List.mem_of_getElem? (i := 25) rfl))) (hw _ (List.mem_of_getElem? (i := 1) rfl)) (ty := .double) (by decide) rfl rfl (g := (mkF m 88 #[.val (.ref po), .val (.int cl), .val (.int up), .val (.double dist), .second, .val (.double rise), .second, .val (.double pu), .second] [(.double s2), (.ref po)])) rfl rfl (hb hby d6_88)
  have N71 := Fr.snoc X71 N65 g_po
  have G71_a1 := G65_a1.other W71 (Ne.symm q01)
  have G71_a2 := G65_a2.other W71 (Ne.symm q02)
  have G71_a3 := G65_a3.other W71 (Ne.symm q03)
  have G71_a4 := G65_a4.other W71 (Ne.symm q04)
  have F71_po_downSum := F65_po_downSum.other W71 (Or.inr (slot_ne (a0 := a0) (Or.inr (hw _ (List.mem_of_getElem? (i := 11) rfl))) (Or.inl (hw _ (List.mem_of_getElem? (i := 25) rfl))) (by decide) (t := (.array .double)) (t' := .double) (by decide) (by decide)))
  have F71_po_upSum := F65_po_upSum.other W71 (Or.inr (slot_ne (a0 := a0) (Or.inr (hw _ (List.mem_of_getElem? (i := 13) rfl))) (Or.inl (hw _ (List.mem_of_getElem? (i := 25) rfl))) (by decide) (t := (.array .double)) (t' := .double) (by decide) (by decide)))
  have F71_po_downCount := F65_po_downCount.other W71 (Or.inr (slot_ne (a0 := a0) (Or.inr (hw _ (List.mem_of_getElem? (i := 16) rfl))) (Or.inl (hw _ (List.mem_of_getElem? (i := 25) rfl))) (by decide) (t := (.array .int)) (t' := .double) (by decide) (by decide)))
  have F71_po_upCount := F65_po_upCount.other W71 (Or.inr (slot_ne (a0 := a0) (Or.inr (hw _ (List.mem_of_getElem? (i := 18) rfl))) (Or.inl (hw _ (List.mem_of_getElem? (i := 25) rfl))) (by decide) (t := (.array .int)) (t' := .double) (by decide) (by decide)))
  have F71_po_allDownSum := F65_po_allDownSum.same W71
  have F71_po_allUpSum := F65_po_allUpSum.other W71 (Or.inr (slot_ne (a0 := a0) (Or.inl (hw _ (List.mem_of_getElem? (i := 45) rfl))) (Or.inl (hw _ (List.mem_of_getElem? (i := 25) rfl))) (by decide) (t := .double) (t' := .double) (by decide) (by decide)))
  have F71_po_allDownCount := F65_po_allDownCount.other W71 (Or.inr (slot_ne (a0 := a0) (Or.inl (hw _ (List.mem_of_getElem? (i := 27) rfl))) (Or.inl (hw _ (List.mem_of_getElem? (i := 25) rfl))) (by decide) (t := .long) (t' := .double) (by decide) (by decide)))
  have F71_po_allUpCount := F65_po_allUpCount.other W71 (Or.inr (slot_ne (a0 := a0) (Or.inl (hw _ (List.mem_of_getElem? (i := 47) rfl))) (Or.inl (hw _ (List.mem_of_getElem? (i := 25) rfl))) (by decide) (t := .long) (t' := .double) (by decide) (by decide)))
  have E71_po := E65_po.wr W71
  have Z71 : n0 ≤ h71.size := Nat.le_trans Z65 (Nat.le_of_eq W71.size.symm)
  have K71 := K65.wr W71 (Or.inl (List.mem_of_getElem? (i := 0) rfl))
  have r72 : Steps p.tables e below S0 (T71.setTop (mkF m 91 #[.val (.ref po), .val (.int cl), .val (.int up), .val (.double dist), .second, .val (.double rise), .second, .val (.double pu), .second] [])) := r70.trans (st71 _ (Steps.refl _))
  have r73 : Steps p.tables e below S0 (T71.setTop (mkF m 93 #[.val (.ref po), .val (.int cl), .val (.int up), .val (.double dist), .second, .val (.double rise), .second, .val (.double pu), .second] [(.ref po), (.ref po)])) := by
    refine r72.trans ?_
    show Steps p.tables e below (T71.setTop (mkF m 91 #[.val (.ref po), .val (.int cl), .val (.int up), .val (.double dist), .second, .val (.double rise), .second, .val (.double pu), .second] [])) _
    refine XS.aloadN X71.here hx rfl (hb hby d6_91) rfl rfl ?_
    show Steps p.tables e below (T71.setTop (mkF m 92 #[.val (.ref po), .val (.int cl), .val (.int up), .val (.double dist), .second, .val (.double rise), .second, .val (.double pu), .second] [(.ref po)])) _
    refine XS.dup X71.here hx rfl (hb hby d6_92) rfl rfl ?_
    exact Steps.refl _
  obtain ⟨T74, X74, e74, st74⟩ := getF X71 hx hZ hown (host := "") (Or.inl (hw _ (List.mem_of_getElem? (i := 26) rfl))) Via.refl e71 F71_po_allDownCount (g := (mkF m 93 #[.val (.ref po), .val (.int cl), .val (.int up), .val (.double dist), .second, .val (.double rise), .second, .val (.double pu), .second] [(.ref po), (.ref po)])) rfl rfl (hb hby d6_93)
  have r75 : Steps p.tables e below S0 (T74.setTop (mkF m 96 #[.val (.ref po), .val (.int cl), .val (.int up), .val (.double dist), .second, .val (.double rise), .second, .val (.double pu), .second] [(.long adc), (.ref po)])) := r73.trans (st74 _ (Steps.refl _))
  have r76 : Steps p.tables e below S0 (T74.setTop (mkF m 98 #[.val (.ref po), .val (.int cl), .val (.int up), .val (.double dist), .second, .val (.double rise), .second, .val (.double pu), .second] [(.long (adc + (1 : Int64))), (.ref po)])) := by
    refine r75.trans ?_
    show Steps p.tables e below (T74.setTop (mkF m 96 #[.val (.ref po), .val (.int cl), .val (.int up), .val (.double dist), .second, .val (.double rise), .second, .val (.double pu), .second] [(.long adc), (.ref po)])) _
    refine XS.lconst X74.here hx rfl (hb hby d6_96) ?_
    show Steps p.tables e below (T74.setTop (mkF m 97 #[.val (.ref po), .val (.int cl), .val (.int up), .val (.double dist), .second, .val (.double rise), .second, .val (.double pu), .second] [(.long (1 : Int64)), (.long adc), (.ref po)])) _
    refine XS.ladd X74.here hx rfl (hb hby d6_97) rfl ?_
    exact Steps.refl _
  obtain ⟨T77, h77, X77, e77, W77, st77⟩ := putF X74 hx hZ hown (host := "") (Or.inl (hw _ (List.mem_of_getElem? (i := 26) rfl))) Via.refl e74 F71_po_allDownCount E71_po (Or.inl (hw _ (List.mem_of_getElem? (i := 27) rfl))) (hw _ (List.mem_of_getElem? (i := 1) rfl)) (ty := .long) (by decide) rfl rfl (g := (mkF m 98 #[.val (.ref po), .val (.int cl), .val (.int up), .val (.double dist), .second, .val (.double rise), .second, .val (.double pu), .second] [(.long (adc + (1 : Int64))), (.ref po)])) rfl rfl (hb hby d6_98)
  have N77 := Fr.snoc X77 N71 g_po
  have G77_a1 := G71_a1.other W77 (Ne.symm q01)
  have G77_a2 := G71_a2.other W77 (Ne.symm q02)
  have G77_a3 := G71_a3.other W77 (Ne.symm q03)
  have G77_a4 := G71_a4.other W77 (Ne.symm q04)
  have F77_po_downSum := F71_po_downSum.other W77 (Or.inr (slot_ne (a0 := a0) (Or.inr (hw _ (List.mem_of_getElem? (i := 11) rfl))) (Or.inl (hw _ (List.mem_of_getElem? (i := 27) rfl))) (by decide) (t := (.array .double)) (t' := .long) (by decide) (by decide)))
  have F77_po_upSum := F71_po_upSum.other W77 (Or.inr (slot_ne (a0 := a0) (Or.inr (hw _ (List.mem_of_getElem? (i := 13) rfl))) (Or.inl (hw _ (List.mem_of_getElem? (i := 27) rfl))) (by decide) (t := (.array .double)) (t' := .long) (by decide) (by decide)))
  have F77_po_downCount := F71_po_downCount.other W77 (Or.inr (slot_ne (a0 := a0) (Or.inr (hw _ (List.mem_of_getElem? (i := 16) rfl))) (Or.inl (hw _ (List.mem_of_getElem? (i := 27) rfl))) (by decide) (t := (.array .int)) (t' := .long) (by decide) (by decide)))
  have F77_po_upCount := F71_po_upCount.other W77 (Or.inr (slot_ne (a0 := a0) (Or.inr (hw _ (List.mem_of_getElem? (i := 18) rfl))) (Or.inl (hw _ (List.mem_of_getElem? (i := 27) rfl))) (by decide) (t := (.array .int)) (t' := .long) (by decide) (by decide)))
  have F77_po_allDownSum := F71_po_allDownSum.other W77 (Or.inr (slot_ne (a0 := a0) (Or.inl (hw _ (List.mem_of_getElem? (i := 25) rfl))) (Or.inl (hw _ (List.mem_of_getElem? (i := 27) rfl))) (by decide) (t := .double) (t' := .long) (by decide) (by decide)))
  have F77_po_allUpSum := F71_po_allUpSum.other W77 (Or.inr (slot_ne (a0 := a0) (Or.inl (hw _ (List.mem_of_getElem? (i := 45) rfl))) (Or.inl (hw _ (List.mem_of_getElem? (i := 27) rfl))) (by decide) (t := .double) (t' := .long) (by decide) (by decide)))
  have F77_po_allDownCount := F71_po_allDownCount.same W77
  have F77_po_allUpCount := F71_po_allUpCount.other W77 (Or.inr (slot_ne (a0 := a0) (Or.inl (hw _ (List.mem_of_getElem? (i := 47) rfl))) (Or.inl (hw _ (List.mem_of_getElem? (i := 27) rfl))) (by decide) (t := .long) (t' := .long) (by decide) (by decide)))
  have E77_po := E71_po.wr W77
  have Z77 : n0 ≤ h77.size := Nat.le_trans Z71 (Nat.le_of_eq W77.size.symm)
  have K77 := K71.wr W77 (Or.inl (List.mem_of_getElem? (i := 0) rfl))
  have r78 : Steps p.tables e below S0 (T77.setTop (mkF m 101 #[.val (.ref po), .val (.int cl), .val (.int up), .val (.double dist), .second, .val (.double rise), .second, .val (.double pu), .second] [])) := r76.trans (st77 _ (Steps.refl _))
  have e1 : (dc cl.toNatClampNeg + (1 : Int32)).toInt = CD cl.toNatClampNeg + 1 := by have q := c_iadd (dc cl.toNatClampNeg) 1; have := rng32 (dc cl.toNatClampNeg + (1 : Int32)); rw [show (1 : Int32).toInt = 1 by decide] at q; omega
  have e2 : (adc + (1 : Int64)).toInt = ND + 1 := by have q := c_ladd adc 1; have := rng64 (adc + (1 : Int64)); rw [show (1 : Int64).toInt = 1 by decide] at q; omega
  obtain ⟨fs, hr, hrun, hended, hW, hsame⟩ := X77.leave (v := none) (fun _ => rfl)
  refine ⟨_, _, pre0 _ ?_, hrun, hended, _, _, rfl, ?_, ⟨_, rfl⟩, hW, hsame.mono (by decide) (by decide)⟩
  · rw [← hS0]
    refine r78.trans ?_
    show Steps p.tables e below (T77.setTop (mkF m 101 #[.val (.ref po), .val (.int cl), .val (.int up), .val (.double dist), .second, .val (.double rise), .second, .val (.double pu), .second] [])) _
    exact X77.returnOut hx Bd.returns (hb hby d6_101) hr
  · show QmRd Z po cl up dist rise a1 a2 a3 a4 SD SU CD CU AD AU ND NU ri dst P h0 n0 _ T77.heap _; rw [e77]; exact ⟨rfl, N77, K77, ⟨(fun i => if i = cl.toNatClampNeg then s1 else ds i), us, (fun i => if i = cl.toNatClampNeg then dc cl.toNatClampNeg + (1 : Int32) else dc i), uc, s2, aus, adc + (1 : Int64), auc, ⟨E77_po, F77_po_downSum, F77_po_upSum, F77_po_downCount, F77_po_upCount, F77_po_allDownSum, F77_po_allUpSum, F77_po_allDownCount, F77_po_allUpCount⟩, ⟨G77_a1.congr (fun i _ => by dsimp only; split <;> rfl), G77_a2, G77_a3.congr (fun i _ => by dsimp only; split <;> rfl), G77_a4⟩, ⟨g_po, g_a1, g_a2, g_a3, g_a4⟩, ⟨q01, q02, q03, q04, q12, q13, q14, q23, q24, q34⟩, ⟨(fun i hi => by
        show Dy (if i = cl.toNatClampNeg then SD i + P else SD i) 3 (if i = cl.toNatClampNeg then s1 else ds i)
        by_cases z : i = cl.toNatClampNeg
        · rw [if_pos z, if_pos z, z]; exact ys1
        · rw [if_neg z, if_neg z]; exact yds i hi), yus, (fun i hi => by
        show (if i = cl.toNatClampNeg then dc cl.toNatClampNeg + (1 : Int32) else dc i).toInt = (if i = cl.toNatClampNeg then CD i + 1 else CD i)
        by_cases z : i = cl.toNatClampNeg
        · rw [if_pos z, if_pos z, z]; exact e1
        · rw [if_neg z, if_neg z]; exact hdc i hi), huc, ys2, yaus, e2, hauc⟩⟩⟩
theorem pn_4 : plainName "com/example/pivotline/pivotline/Pseudocosts" = true := by first | (simp [plainName, overriddenIn]; done) | decide +kernel
theorem ef_4 (m : MethodId) (x0 : UInt64) (x1 : Int32) (x2 : UInt64) (x3 : Int64) : entryFrame m #[(.double x0), (.int x1), (.double x2), (.long x3)] 9 = mkF m 0 #[.val (.double x0), .second, .val (.int x1), .val (.double x2), .second, .val (.long x3), .second, .unset, .unset] [] := by first | (simp [entryFrame, mkF, argsToLocals, Value.category]; done) | rfl
def QmN0 (Z : State) (sm : UInt64) (ct : Int32) (al : UInt64) (an : Int64)  (h0 : Heap) (n0 : Nat) (v : Option Value) (h : Heap) (L : List Loc) : Prop := v = some (.double (FP.ddiv sm (FP.i2d ct))) ∧ Fr n0 L ∧ h = h0
set_option maxRecDepth 65536 in
set_option maxHeartbeats 40000000 in
theorem rmN0 (l : Launch) (Z : State) (a0 : Array Value) (hw : ∀ d ∈ tables_1, d.before a0 Z = true) (ws : List Jvm.Cond) (sm : UInt64) (ct : Int32) (al : UInt64) (an : Int64)  (h0 : Heap) (n0 : Nat) (Z0 : n0 ≤ h0.size) (h1 : (0 : Int32) < ct)(nn : NoNaN64 (FP.ddiv sm (FP.i2d ct))) :
    MetFree l (⟨"com/example/pivotline/pivotline/Pseudocosts", "mean", "(DIDJ)D"⟩ : MethodName) (head1 (Jvm.Cond.code (⟨"com/example/pivotline/pivotline/Pseudocosts", "mean", "(DIDJ)D"⟩ : MethodName) prog_24_method_7_code 9 (some .double) :: ws) ({ frames := 0, cells := 0, slots := 0, locals := 0 } : Room)) (fun a U => a = #[(.double sm), (.int ct), (.double al), (.long an)] ∧ Z.Warmed39 U.vm ∧ U.heap = h0) (fun _ _ _ _ _ => True) (fun _ U o U' => ∃ v L, o = .returned v ∧ QmN0 Z sm ct al an h0 n0 v U'.heap L ∧ FrameEnd U o U' L ({ frames := 0, cells := 0, slots := 0, locals := 0 } : Room).cells ({ frames := 0, cells := 0, slots := 0, locals := 0 } : Room).slots) := by
  refine MetFree.of_bodySF (plainFor_of_name pn_4) hisR ?_
  intro p e s m args below meth c s₁ Bd hml0 hP hK
  obtain ⟨rfl, hZ, hh⟩ := hP
  have hx := Bd.exec
  have hby := Bd.bytes
  have hml : c.maxLocals = 9 := hml0
  have hown : s.vm.findClass "com/example/pivotline/pivotline/Pseudocosts" = some m.cls := findClass_of_methodNamed Bd.named
  have hnm := (name_of_methodNamed Bd.named Bd.method).1
  have X0 : Stand p l e ({ frames := 0, cells := 0, slots := 0, locals := 0 } : Room) s m #[(.double sm), (.int ct), (.double al), (.long an)] below meth c s₁ [] 0 0 := Stand.of_body Bd
  have e0 : s₁.heap = h0 := by rw [← hh, Bd.state]; rfl
  have N0 := Fr.nil n0
  have pre0 : ∀ t, Steps p.tables e below (s₁.setTop (mkF m 0 #[.val (.double sm), .second, .val (.int ct), .val (.double al), .second, .val (.long an), .second, .unset, .unset] [])) t → Steps p.tables e below (s₁.setTop (entryFrame m #[(.double sm), (.int ct), (.double al), (.long an)] 9)) t := fun t k => castTop (ef_4 m sm ct al an) k
  obtain ⟨S0, hS0⟩ : ∃ z, z = s₁.setTop (mkF m 0 #[.val (.double sm), .second, .val (.int ct), .val (.double al), .second, .val (.long an), .second, .unset, .unset] []) := ⟨_, rfl⟩
  have r0 : Steps p.tables e below S0 (s₁.setTop (mkF m 0 #[.val (.double sm), .second, .val (.int ct), .val (.double al), .second, .val (.long an), .second, .unset, .unset] [])) := by rw [hS0]; exact Steps.refl _
  obtain ⟨dq, hdq⟩ : ∃ z, FP.ddiv sm (FP.i2d ct) = z := ⟨_, rfl⟩
  have r79 : Steps p.tables e below S0 (s₁.setTop (mkF m 32 #[.val (.double sm), .second, .val (.int ct), .val (.double al), .second, .val (.long an), .second, .val (.double dq), .second] [(.double dq)])) := by
    refine r0.trans ?_
    show Steps p.tables e below (s₁.setTop (mkF m 0 #[.val (.double sm), .second, .val (.int ct), .val (.double al), .second, .val (.long an), .second, .unset, .unset] [])) _
    refine XS.dconst1 X0.here hx rfl (hb hby d4_0) rfl ?_
    show Steps p.tables e below (s₁.setTop (mkF m 1 #[.val (.double sm), .second, .val (.int ct), .val (.double al), .second, .val (.long an), .second, .unset, .unset] [(.double FP.dconst1)])) _
    refine XS.dstore X0.here hx rfl (hb hby d4_1) rfl (l' := #[.val (.double sm), .second, .val (.int ct), .val (.double al), .second, .val (.long an), .second, .val (.double FP.dconst1), .second]) rfl ?_
    show Steps p.tables e below (s₁.setTop (mkF m 3 #[.val (.double sm), .second, .val (.int ct), .val (.double al), .second, .val (.long an), .second, .val (.double FP.dconst1), .second] [])) _
    refine XS.iloadN X0.here hx rfl (hb hby d4_3) rfl ?_
    show Steps p.tables e below (s₁.setTop (mkF m 4 #[.val (.double sm), .second, .val (.int ct), .val (.double al), .second, .val (.long an), .second, .val (.double FP.dconst1), .second] [(.int ct)])) _
    refine XS.ifNo X0.here hx rfl (hb hby d4_4) rfl ((if0 _ _).trans (tlt h1).2.2.2) ?_
    show Steps p.tables e below (s₁.setTop (mkF m 7 #[.val (.double sm), .second, .val (.int ct), .val (.double al), .second, .val (.long an), .second, .val (.double FP.dconst1), .second] [])) _
    refine XS.dloadN X0.here hx rfl (hb hby d4_7) rfl ?_
    show Steps p.tables e below (s₁.setTop (mkF m 8 #[.val (.double sm), .second, .val (.int ct), .val (.double al), .second, .val (.long an), .second, .val (.double FP.dconst1), .second] [(.double sm)])) _
    refine XS.iloadN X0.here hx rfl (hb hby d4_8) rfl ?_
    show Steps p.tables e below (s₁.setTop (mkF m 9 #[.val (.double sm), .second, .val (.int ct), .val (.double al), .second, .val (.long an), .second, .val (.double FP.dconst1), .second] [(.int ct), (.double sm)])) _
    refine XS.i2dS X0.here hx rfl (hb hby d4_9) rfl rfl ?_
    show Steps p.tables e below (s₁.setTop (mkF m 10 #[.val (.double sm), .second, .val (.int ct), .val (.double al), .second, .val (.long an), .second, .val (.double FP.dconst1), .second] [(.double (FP.i2d ct)), (.double sm)])) _
    refine XS.ddivS X0.here hx rfl (hb hby d4_10) rfl (nn) hdq ?_
    show Steps p.tables e below (s₁.setTop (mkF m 11 #[.val (.double sm), .second, .val (.int ct), .val (.double al), .second, .val (.long an), .second, .val (.double FP.dconst1), .second] [(.double dq)])) _
    refine XS.dstore X0.here hx rfl (hb hby d4_11) rfl (l' := #[.val (.double sm), .second, .val (.int ct), .val (.double al), .second, .val (.long an), .second, .val (.double dq), .second]) rfl ?_
    show Steps p.tables e below (s₁.setTop (mkF m 13 #[.val (.double sm), .second, .val (.int ct), .val (.double al), .second, .val (.long an), .second, .val (.double dq), .second] [])) _
    refine XS.goto X0.here hx rfl (pc0 := 13) (pc' := 30) rfl (hb hby d4_13) (by decide) (by decide) ?_
    show Steps p.tables e below (s₁.setTop (mkF m 30 #[.val (.double sm), .second, .val (.int ct), .val (.double al), .second, .val (.long an), .second, .val (.double dq), .second] [])) _
    refine XS.dload X0.here hx rfl (hb hby d4_30) rfl ?_
    exact Steps.refl _
  obtain ⟨fs, hr, hrun, hended, hW, hsame⟩ := X0.leave (v := some (.double dq)) (fun h => by rw [Bd.returns] at h; cases h)
  refine ⟨_, _, pre0 _ ?_, hrun, hended, _, _, rfl, ?_, ⟨_, rfl⟩, hW, hsame.mono (by decide) (by decide)⟩
  · rw [← hS0]
    refine r79.trans ?_
    show Steps p.tables e below (s₁.setTop (mkF m 32 #[.val (.double sm), .second, .val (.int ct), .val (.double al), .second, .val (.long an), .second, .val (.double dq), .second] [(.double dq)])) _
    exact retD X0 hx Bd.returns (hb hby d4_32) hr
  · subst hdq; exact ⟨rfl, N0, e0⟩
def QmN1 (Z : State) (sm : UInt64) (ct : Int32) (al : UInt64) (an : Int64)  (h0 : Heap) (n0 : Nat) (v : Option Value) (h : Heap) (L : List Loc) : Prop := v = some (.double (FP.ddiv al (FP.l2d an))) ∧ Fr n0 L ∧ h = h0
set_option maxRecDepth 65536 in
set_option maxHeartbeats 40000000 in
theorem rmN1 (l : Launch) (Z : State) (a0 : Array Value) (hw : ∀ d ∈ tables_1, d.before a0 Z = true) (ws : List Jvm.Cond) (sm : UInt64) (ct : Int32) (al : UInt64) (an : Int64)  (h0 : Heap) (n0 : Nat) (Z0 : n0 ≤ h0.size) (h1 : ¬ (0 : Int32) < ct) (h2 : (0 : Int64) < an)(nn : NoNaN64 (FP.ddiv al (FP.l2d an))) :
    MetFree l (⟨"com/example/pivotline/pivotline/Pseudocosts", "mean", "(DIDJ)D"⟩ : MethodName) (head1 (Jvm.Cond.code (⟨"com/example/pivotline/pivotline/Pseudocosts", "mean", "(DIDJ)D"⟩ : MethodName) prog_24_method_7_code 9 (some .double) :: ws) ({ frames := 0, cells := 0, slots := 0, locals := 0 } : Room)) (fun a U => a = #[(.double sm), (.int ct), (.double al), (.long an)] ∧ Z.Warmed39 U.vm ∧ U.heap = h0) (fun _ _ _ _ _ => True) (fun _ U o U' => ∃ v L, o = .returned v ∧ QmN1 Z sm ct al an h0 n0 v U'.heap L ∧ FrameEnd U o U' L ({ frames := 0, cells := 0, slots := 0, locals := 0 } : Room).cells ({ frames := 0, cells := 0, slots := 0, locals := 0 } : Room).slots) := by
  refine MetFree.of_bodySF (plainFor_of_name pn_4) hisR ?_
  intro p e s m args below meth c s₁ Bd hml0 hP hK
  obtain ⟨rfl, hZ, hh⟩ := hP
  have hx := Bd.exec
  have hby := Bd.bytes
  have hml : c.maxLocals = 9 := hml0
  have hown : s.vm.findClass "com/example/pivotline/pivotline/Pseudocosts" = some m.cls := findClass_of_methodNamed Bd.named
  have hnm := (name_of_methodNamed Bd.named Bd.method).1
  have X0 : Stand p l e ({ frames := 0, cells := 0, slots := 0, locals := 0 } : Room) s m #[(.double sm), (.int ct), (.double al), (.long an)] below meth c s₁ [] 0 0 := Stand.of_body Bd
  have e0 : s₁.heap = h0 := by rw [← hh, Bd.state]; rfl
  have N0 := Fr.nil n0
  have pre0 : ∀ t, Steps p.tables e below (s₁.setTop (mkF m 0 #[.val (.double sm), .second, .val (.int ct), .val (.double al), .second, .val (.long an), .second, .unset, .unset] [])) t → Steps p.tables e below (s₁.setTop (entryFrame m #[(.double sm), (.int ct), (.double al), (.long an)] 9)) t := fun t k => castTop (ef_4 m sm ct al an) k
  obtain ⟨S0, hS0⟩ : ∃ z, z = s₁.setTop (mkF m 0 #[.val (.double sm), .second, .val (.int ct), .val (.double al), .second, .val (.long an), .second, .unset, .unset] []) := ⟨_, rfl⟩
  have r0 : Steps p.tables e below S0 (s₁.setTop (mkF m 0 #[.val (.double sm), .second, .val (.int ct), .val (.double al), .second, .val (.long an), .second, .unset, .unset] [])) := by rw [hS0]; exact Steps.refl _
  obtain ⟨dq, hdq⟩ : ∃ z, FP.ddiv al (FP.l2d an) = z := ⟨_, rfl⟩
  have r80 : Steps p.tables e below S0 (s₁.setTop (mkF m 32 #[.val (.double sm), .second, .val (.int ct), .val (.double al), .second, .val (.long an), .second, .val (.double dq), .second] [(.double dq)])) := by
    refine r0.trans ?_
    show Steps p.tables e below (s₁.setTop (mkF m 0 #[.val (.double sm), .second, .val (.int ct), .val (.double al), .second, .val (.long an), .second, .unset, .unset] [])) _
    refine XS.dconst1 X0.here hx rfl (hb hby d4_0) rfl ?_
    show Steps p.tables e below (s₁.setTop (mkF m 1 #[.val (.double sm), .second, .val (.int ct), .val (.double al), .second, .val (.long an), .second, .unset, .unset] [(.double FP.dconst1)])) _
    refine XS.dstore X0.here hx rfl (hb hby d4_1) rfl (l' := #[.val (.double sm), .second, .val (.int ct), .val (.double al), .second, .val (.long an), .second, .val (.double FP.dconst1), .second]) rfl ?_
    show Steps p.tables e below (s₁.setTop (mkF m 3 #[.val (.double sm), .second, .val (.int ct), .val (.double al), .second, .val (.long an), .second, .val (.double FP.dconst1), .second] [])) _
    refine XS.iloadN X0.here hx rfl (hb hby d4_3) rfl ?_
    show Steps p.tables e below (s₁.setTop (mkF m 4 #[.val (.double sm), .second, .val (.int ct), .val (.double al), .second, .val (.long an), .second, .val (.double FP.dconst1), .second] [(.int ct)])) _
    refine XS.ifYes X0.here hx rfl (pc0 := 4) (pc' := 16) rfl (hb hby d4_4) rfl ((if0 _ _).trans (flt h1).2.2.2) (by decide) (by decide) ?_
    show Steps p.tables e below (s₁.setTop (mkF m 16 #[.val (.double sm), .second, .val (.int ct), .val (.double al), .second, .val (.long an), .second, .val (.double FP.dconst1), .second] [])) _
    refine XS.lload X0.here hx rfl (hb hby d4_16) rfl ?_
    show Steps p.tables e below (s₁.setTop (mkF m 18 #[.val (.double sm), .second, .val (.int ct), .val (.double al), .second, .val (.long an), .second, .val (.double FP.dconst1), .second] [(.long an)])) _
    refine XS.lconst X0.here hx rfl (hb hby d4_18) ?_
    show Steps p.tables e below (s₁.setTop (mkF m 19 #[.val (.double sm), .second, .val (.int ct), .val (.double al), .second, .val (.long an), .second, .val (.double FP.dconst1), .second] [(.long (0 : Int64)), (.long an)])) _
    refine XS.lcmp X0.here hx rfl (hb hby d4_19) rfl ?_
    show Steps p.tables e below (s₁.setTop (mkF m 20 #[.val (.double sm), .second, .val (.int ct), .val (.double al), .second, .val (.long an), .second, .val (.double FP.dconst1), .second] [(.int (lcmpW an (0 : Int64)))])) _
    refine XS.ifNo X0.here hx rfl (hb hby d4_20) rfl ((if0 _ _).trans (tlt ((lw_gt _ _).mpr h2)).2.2.2) ?_
    show Steps p.tables e below (s₁.setTop (mkF m 23 #[.val (.double sm), .second, .val (.int ct), .val (.double al), .second, .val (.long an), .second, .val (.double FP.dconst1), .second] [])) _
    refine XS.dloadN X0.here hx rfl (hb hby d4_23) rfl ?_
    show Steps p.tables e below (s₁.setTop (mkF m 24 #[.val (.double sm), .second, .val (.int ct), .val (.double al), .second, .val (.long an), .second, .val (.double FP.dconst1), .second] [(.double al)])) _
    refine XS.lload X0.here hx rfl (hb hby d4_24) rfl ?_
    show Steps p.tables e below (s₁.setTop (mkF m 26 #[.val (.double sm), .second, .val (.int ct), .val (.double al), .second, .val (.long an), .second, .val (.double FP.dconst1), .second] [(.long an), (.double al)])) _
    refine XS.l2dS X0.here hx rfl (hb hby d4_26) rfl rfl ?_
    show Steps p.tables e below (s₁.setTop (mkF m 27 #[.val (.double sm), .second, .val (.int ct), .val (.double al), .second, .val (.long an), .second, .val (.double FP.dconst1), .second] [(.double (FP.l2d an)), (.double al)])) _
    refine XS.ddivS X0.here hx rfl (hb hby d4_27) rfl (nn) hdq ?_
    show Steps p.tables e below (s₁.setTop (mkF m 28 #[.val (.double sm), .second, .val (.int ct), .val (.double al), .second, .val (.long an), .second, .val (.double FP.dconst1), .second] [(.double dq)])) _
    refine XS.dstore X0.here hx rfl (hb hby d4_28) rfl (l' := #[.val (.double sm), .second, .val (.int ct), .val (.double al), .second, .val (.long an), .second, .val (.double dq), .second]) rfl ?_
    show Steps p.tables e below (s₁.setTop (mkF m 30 #[.val (.double sm), .second, .val (.int ct), .val (.double al), .second, .val (.long an), .second, .val (.double dq), .second] [])) _
    refine XS.dload X0.here hx rfl (hb hby d4_30) rfl ?_
    exact Steps.refl _
  obtain ⟨fs, hr, hrun, hended, hW, hsame⟩ := X0.leave (v := some (.double dq)) (fun h => by rw [Bd.returns] at h; cases h)
  refine ⟨_, _, pre0 _ ?_, hrun, hended, _, _, rfl, ?_, ⟨_, rfl⟩, hW, hsame.mono (by decide) (by decide)⟩
  · rw [← hS0]
    refine r80.trans ?_
    show Steps p.tables e below (s₁.setTop (mkF m 32 #[.val (.double sm), .second, .val (.int ct), .val (.double al), .second, .val (.long an), .second, .val (.double dq), .second] [(.double dq)])) _
    exact retD X0 hx Bd.returns (hb hby d4_32) hr
  · subst hdq; exact ⟨rfl, N0, e0⟩
def QmN2 (Z : State) (sm : UInt64) (ct : Int32) (al : UInt64) (an : Int64)  (h0 : Heap) (n0 : Nat) (v : Option Value) (h : Heap) (L : List Loc) : Prop := v = some (.double FP.dconst1) ∧ Fr n0 L ∧ h = h0
set_option maxRecDepth 65536 in
set_option maxHeartbeats 40000000 in
theorem rmN2 (l : Launch) (Z : State) (a0 : Array Value) (hw : ∀ d ∈ tables_1, d.before a0 Z = true) (ws : List Jvm.Cond) (sm : UInt64) (ct : Int32) (al : UInt64) (an : Int64)  (h0 : Heap) (n0 : Nat) (Z0 : n0 ≤ h0.size) (h1 : ¬ (0 : Int32) < ct) (h2 : ¬ (0 : Int64) < an) :
    MetFree l (⟨"com/example/pivotline/pivotline/Pseudocosts", "mean", "(DIDJ)D"⟩ : MethodName) (head1 (Jvm.Cond.code (⟨"com/example/pivotline/pivotline/Pseudocosts", "mean", "(DIDJ)D"⟩ : MethodName) prog_24_method_7_code 9 (some .double) :: ws) ({ frames := 0, cells := 0, slots := 0, locals := 0 } : Room)) (fun a U => a = #[(.double sm), (.int ct), (.double al), (.long an)] ∧ Z.Warmed39 U.vm ∧ U.heap = h0) (fun _ _ _ _ _ => True) (fun _ U o U' => ∃ v L, o = .returned v ∧ QmN2 Z sm ct al an h0 n0 v U'.heap L ∧ FrameEnd U o U' L ({ frames := 0, cells := 0, slots := 0, locals := 0 } : Room).cells ({ frames := 0, cells := 0, slots := 0, locals := 0 } : Room).slots) := by
  refine MetFree.of_bodySF (plainFor_of_name pn_4) hisR ?_
  intro p e s m args below meth c s₁ Bd hml0 hP hK
  obtain ⟨rfl, hZ, hh⟩ := hP
  have hx := Bd.exec
  have hby := Bd.bytes
  have hml : c.maxLocals = 9 := hml0
  have hown : s.vm.findClass "com/example/pivotline/pivotline/Pseudocosts" = some m.cls := findClass_of_methodNamed Bd.named
  have hnm := (name_of_methodNamed Bd.named Bd.method).1
  have X0 : Stand p l e ({ frames := 0, cells := 0, slots := 0, locals := 0 } : Room) s m #[(.double sm), (.int ct), (.double al), (.long an)] below meth c s₁ [] 0 0 := Stand.of_body Bd
  have e0 : s₁.heap = h0 := by rw [← hh, Bd.state]; rfl
  have N0 := Fr.nil n0
  have pre0 : ∀ t, Steps p.tables e below (s₁.setTop (mkF m 0 #[.val (.double sm), .second, .val (.int ct), .val (.double al), .second, .val (.long an), .second, .unset, .unset] [])) t → Steps p.tables e below (s₁.setTop (entryFrame m #[(.double sm), (.int ct), (.double al), (.long an)] 9)) t := fun t k => castTop (ef_4 m sm ct al an) k
  obtain ⟨S0, hS0⟩ : ∃ z, z = s₁.setTop (mkF m 0 #[.val (.double sm), .second, .val (.int ct), .val (.double al), .second, .val (.long an), .second, .unset, .unset] []) := ⟨_, rfl⟩
  have r0 : Steps p.tables e below S0 (s₁.setTop (mkF m 0 #[.val (.double sm), .second, .val (.int ct), .val (.double al), .second, .val (.long an), .second, .unset, .unset] [])) := by rw [hS0]; exact Steps.refl _
  have r81 : Steps p.tables e below S0 (s₁.setTop (mkF m 32 #[.val (.double sm), .second, .val (.int ct), .val (.double al), .second, .val (.long an), .second, .val (.double FP.dconst1), .second] [(.double FP.dconst1)])) := by
    refine r0.trans ?_
    show Steps p.tables e below (s₁.setTop (mkF m 0 #[.val (.double sm), .second, .val (.int ct), .val (.double al), .second, .val (.long an), .second, .unset, .unset] [])) _
    refine XS.dconst1 X0.here hx rfl (hb hby d4_0) rfl ?_
    show Steps p.tables e below (s₁.setTop (mkF m 1 #[.val (.double sm), .second, .val (.int ct), .val (.double al), .second, .val (.long an), .second, .unset, .unset] [(.double FP.dconst1)])) _
    refine XS.dstore X0.here hx rfl (hb hby d4_1) rfl (l' := #[.val (.double sm), .second, .val (.int ct), .val (.double al), .second, .val (.long an), .second, .val (.double FP.dconst1), .second]) rfl ?_
    show Steps p.tables e below (s₁.setTop (mkF m 3 #[.val (.double sm), .second, .val (.int ct), .val (.double al), .second, .val (.long an), .second, .val (.double FP.dconst1), .second] [])) _
    refine XS.iloadN X0.here hx rfl (hb hby d4_3) rfl ?_
    show Steps p.tables e below (s₁.setTop (mkF m 4 #[.val (.double sm), .second, .val (.int ct), .val (.double al), .second, .val (.long an), .second, .val (.double FP.dconst1), .second] [(.int ct)])) _
    refine XS.ifYes X0.here hx rfl (pc0 := 4) (pc' := 16) rfl (hb hby d4_4) rfl ((if0 _ _).trans (flt h1).2.2.2) (by decide) (by decide) ?_
    show Steps p.tables e below (s₁.setTop (mkF m 16 #[.val (.double sm), .second, .val (.int ct), .val (.double al), .second, .val (.long an), .second, .val (.double FP.dconst1), .second] [])) _
    refine XS.lload X0.here hx rfl (hb hby d4_16) rfl ?_
    show Steps p.tables e below (s₁.setTop (mkF m 18 #[.val (.double sm), .second, .val (.int ct), .val (.double al), .second, .val (.long an), .second, .val (.double FP.dconst1), .second] [(.long an)])) _
    refine XS.lconst X0.here hx rfl (hb hby d4_18) ?_
    show Steps p.tables e below (s₁.setTop (mkF m 19 #[.val (.double sm), .second, .val (.int ct), .val (.double al), .second, .val (.long an), .second, .val (.double FP.dconst1), .second] [(.long (0 : Int64)), (.long an)])) _
    refine XS.lcmp X0.here hx rfl (hb hby d4_19) rfl ?_
    show Steps p.tables e below (s₁.setTop (mkF m 20 #[.val (.double sm), .second, .val (.int ct), .val (.double al), .second, .val (.long an), .second, .val (.double FP.dconst1), .second] [(.int (lcmpW an (0 : Int64)))])) _
    refine XS.ifYes X0.here hx rfl (pc0 := 20) (pc' := 30) rfl (hb hby d4_20) rfl ((if0 _ _).trans (flt (fun z => h2 ((lw_gt _ _).mp z))).2.2.2) (by decide) (by decide) ?_
    show Steps p.tables e below (s₁.setTop (mkF m 30 #[.val (.double sm), .second, .val (.int ct), .val (.double al), .second, .val (.long an), .second, .val (.double FP.dconst1), .second] [])) _
    refine XS.dload X0.here hx rfl (hb hby d4_30) rfl ?_
    exact Steps.refl _
  obtain ⟨fs, hr, hrun, hended, hW, hsame⟩ := X0.leave (v := some (.double FP.dconst1)) (fun h => by rw [Bd.returns] at h; cases h)
  refine ⟨_, _, pre0 _ ?_, hrun, hended, _, _, rfl, ?_, ⟨_, rfl⟩, hW, hsame.mono (by decide) (by decide)⟩
  · rw [← hS0]
    refine r81.trans ?_
    show Steps p.tables e below (s₁.setTop (mkF m 32 #[.val (.double sm), .second, .val (.int ct), .val (.double al), .second, .val (.long an), .second, .val (.double FP.dconst1), .second] [(.double FP.dconst1)])) _
    exact retD X0 hx Bd.returns (hb hby d4_32) hr
  · exact ⟨rfl, N0, e0⟩
theorem pn_3 : plainName "com/example/pivotline/pivotline/Pseudocosts" = true := by first | (simp [plainName, overriddenIn]; done) | decide +kernel
theorem ef_3 (m : MethodId) (x0 : Addr) (x1 : Int32) : entryFrame m #[(.ref x0), (.int x1)] 2 = mkF m 0 #[.val (.ref x0), .val (.int x1)] [] := by first | (simp [entryFrame, mkF, argsToLocals, Value.category]; done) | rfl
def QmU0 (Z : State) (po : Addr) (cl : Int32) (a1 : Addr) (a2 : Addr) (a3 : Addr) (a4 : Addr) (SD : Nat → Int) (SU : Nat → Int) (CD : Nat → Int) (CU : Nat → Int) (AD : Int) (AU : Int) (ND : Int) (NU : Int) (h0 : Heap) (n0 : Nat) (v : Option Value) (h : Heap) (L : List Loc) : Prop := ∃ (sm : UInt64) (ct : Int32), v = some (.double (FP.ddiv sm (FP.i2d ct))) ∧ Dy (SD cl.toNatClampNeg) 3 sm ∧ ct.toInt = CD cl.toNatClampNeg ∧ Fr n0 L ∧ h = h0
set_option maxRecDepth 65536 in
set_option maxHeartbeats 40000000 in
theorem rmU0 (l : Launch) (Z : State) (a0 : Array Value) (hw : ∀ d ∈ tables_1, d.before a0 Z = true) (ws : List Jvm.Cond) (po : Addr) (cl : Int32) (a1 : Addr) (a2 : Addr) (a3 : Addr) (a4 : Addr) (SD : Nat → Int) (SU : Nat → Int) (CD : Nat → Int) (CU : Nat → Int) (AD : Int) (AU : Int) (ND : Int) (NU : Int) (h0 : Heap) (n0 : Nat) (Z0 : n0 ≤ h0.size) (hPS : PS Z h0 n0 po a1 a2 a3 a4 SD SU CD CU AD AU ND NU) (hcl : cl = 0 ∨ cl = 1) (bN : ND.natAbs ≤ 1000000) (h1 : 0 < CD cl.toNatClampNeg) :
    MetFree l (⟨"com/example/pivotline/pivotline/Pseudocosts", "down", "(I)D"⟩ : MethodName) (head1 (Jvm.Cond.code (⟨"com/example/pivotline/pivotline/Pseudocosts", "down", "(I)D"⟩ : MethodName) prog_24_method_3_code 2 (some .double) :: ws) ({ frames := 1, cells := 0, slots := 0, locals := 20 } : Room)) (fun a U => a = #[(.ref po), (.int cl)] ∧ Z.Warmed39 U.vm ∧ U.heap = h0) (fun _ _ _ _ _ => True) (fun _ U o U' => ∃ v L, o = .returned v ∧ QmU0 Z po cl a1 a2 a3 a4 SD SU CD CU AD AU ND NU h0 n0 v U'.heap L ∧ FrameEnd U o U' L ({ frames := 1, cells := 0, slots := 0, locals := 20 } : Room).cells ({ frames := 1, cells := 0, slots := 0, locals := 20 } : Room).slots) := by
  refine MetFree.of_bodySF (plainFor_of_name pn_3) hisR ?_
  intro p e s m args below meth c s₁ Bd hml0 hP hK
  obtain ⟨rfl, hZ, hh⟩ := hP
  have hx := Bd.exec
  have hby := Bd.bytes
  have hml : c.maxLocals = 2 := hml0
  have hown : s.vm.findClass "com/example/pivotline/pivotline/Pseudocosts" = some m.cls := findClass_of_methodNamed Bd.named
  have hnm := (name_of_methodNamed Bd.named Bd.method).1
  have X0 : Stand p l e ({ frames := 1, cells := 0, slots := 0, locals := 20 } : Room) s m #[(.ref po), (.int cl)] below meth c s₁ [] 0 0 := Stand.of_body Bd
  have e0 : s₁.heap = h0 := by rw [← hh, Bd.state]; rfl
  have N0 := Fr.nil n0
  have pre0 : ∀ t, Steps p.tables e below (s₁.setTop (mkF m 0 #[.val (.ref po), .val (.int cl)] [])) t → Steps p.tables e below (s₁.setTop (entryFrame m #[(.ref po), (.int cl)] 2)) t := fun t k => castTop (ef_3 m po cl) k
  obtain ⟨S0, hS0⟩ : ∃ z, z = s₁.setTop (mkF m 0 #[.val (.ref po), .val (.int cl)] []) := ⟨_, rfl⟩
  have r0 : Steps p.tables e below S0 (s₁.setTop (mkF m 0 #[.val (.ref po), .val (.int cl)] [])) := by rw [hS0]; exact Steps.refl _
  obtain ⟨ds, us, dc, uc, ads, aus, adc, auc, ⟨Epo, Fds, Fus, Fdc, Fuc, Fads, Faus, Fadc, Fauc⟩, ⟨Gds, Gus, Gdc, Guc⟩, ⟨g_po, g_a1, g_a2, g_a3, g_a4⟩, ⟨q01, q02, q03, q04, q12, q13, q14, q23, q24, q34⟩, ⟨yds, yus, hdc, huc, yads, yaus, hadc, hauc⟩⟩ := hPS
  obtain ⟨hc0, hc2⟩ := cl_ok hcl
  have yS := yds cl.toNatClampNeg hc2
  have hC := hdc cl.toNatClampNeg hc2
  have r82 : Steps p.tables e below S0 (s₁.setTop (mkF m 1 #[.val (.ref po), .val (.int cl)] [(.ref po)])) := by
    refine r0.trans ?_
    show Steps p.tables e below (s₁.setTop (mkF m 0 #[.val (.ref po), .val (.int cl)] [])) _
    refine XS.aloadN X0.here hx rfl (hb hby d3_0) rfl rfl ?_
    exact Steps.refl _
  obtain ⟨T83, X83, e83, st83⟩ := getF X0 hx hZ hown (host := "") (Or.inl (hw _ (List.mem_of_getElem? (i := 10) rfl))) Via.refl e0 Fds (g := (mkF m 1 #[.val (.ref po), .val (.int cl)] [(.ref po)])) rfl rfl (hb hby d3_1)
  have r84 : Steps p.tables e below S0 (T83.setTop (mkF m 4 #[.val (.ref po), .val (.int cl)] [(.ref a1)])) := r82.trans (st83 _ (Steps.refl _))
  have r85 : Steps p.tables e below S0 (T83.setTop (mkF m 7 #[.val (.ref po), .val (.int cl)] [(.ref po), (.double (ds cl.toNatClampNeg))])) := by
    refine r84.trans ?_
    show Steps p.tables e below (T83.setTop (mkF m 4 #[.val (.ref po), .val (.int cl)] [(.ref a1)])) _
    refine XS.iloadN X83.here hx rfl (hb hby d3_4) rfl ?_
    show Steps p.tables e below (T83.setTop (mkF m 5 #[.val (.ref po), .val (.int cl)] [(.int cl), (.ref a1)])) _
    refine ldD X83 hx hZ e83 Gds (j := cl) hc0 hc2 (v := (.double (ds cl.toNatClampNeg))) rfl (g := (mkF m 5 #[.val (.ref po), .val (.int cl)] [(.int cl), (.ref a1)])) rfl rfl (hb hby d3_5) _ ?_
    show Steps p.tables e below (T83.setTop (mkF m 6 #[.val (.ref po), .val (.int cl)] [(.double (ds cl.toNatClampNeg))])) _
    refine XS.aloadN X83.here hx rfl (hb hby d3_6) rfl rfl ?_
    exact Steps.refl _
  obtain ⟨T86, X86, e86, st86⟩ := getF X83 hx hZ hown (host := "") (Or.inl (hw _ (List.mem_of_getElem? (i := 15) rfl))) Via.refl e83 Fdc (g := (mkF m 7 #[.val (.ref po), .val (.int cl)] [(.ref po), (.double (ds cl.toNatClampNeg))])) rfl rfl (hb hby d3_7)
  have r87 : Steps p.tables e below S0 (T86.setTop (mkF m 10 #[.val (.ref po), .val (.int cl)] [(.ref a3), (.double (ds cl.toNatClampNeg))])) := r85.trans (st86 _ (Steps.refl _))
  have r88 : Steps p.tables e below S0 (T86.setTop (mkF m 13 #[.val (.ref po), .val (.int cl)] [(.ref po), (.int (dc cl.toNatClampNeg)), (.double (ds cl.toNatClampNeg))])) := by
    refine r87.trans ?_
    show Steps p.tables e below (T86.setTop (mkF m 10 #[.val (.ref po), .val (.int cl)] [(.ref a3), (.double (ds cl.toNatClampNeg))])) _
    refine XS.iloadN X86.here hx rfl (hb hby d3_10) rfl ?_
    show Steps p.tables e below (T86.setTop (mkF m 11 #[.val (.ref po), .val (.int cl)] [(.int cl), (.ref a3), (.double (ds cl.toNatClampNeg))])) _
    refine ldI X86 hx hZ e86 Gdc (j := cl) hc0 hc2 (v := (.int (dc cl.toNatClampNeg))) rfl (g := (mkF m 11 #[.val (.ref po), .val (.int cl)] [(.int cl), (.ref a3), (.double (ds cl.toNatClampNeg))])) rfl rfl (hb hby d3_11) _ ?_
    show Steps p.tables e below (T86.setTop (mkF m 12 #[.val (.ref po), .val (.int cl)] [(.int (dc cl.toNatClampNeg)), (.double (ds cl.toNatClampNeg))])) _
    refine XS.aloadN X86.here hx rfl (hb hby d3_12) rfl rfl ?_
    exact Steps.refl _
  obtain ⟨T89, X89, e89, st89⟩ := getF X86 hx hZ hown (host := "") (Or.inl (hw _ (List.mem_of_getElem? (i := 24) rfl))) Via.refl e86 Fads (g := (mkF m 13 #[.val (.ref po), .val (.int cl)] [(.ref po), (.int (dc cl.toNatClampNeg)), (.double (ds cl.toNatClampNeg))])) rfl rfl (hb hby d3_13)
  have r90 : Steps p.tables e below S0 (T89.setTop (mkF m 16 #[.val (.ref po), .val (.int cl)] [(.double ads), (.int (dc cl.toNatClampNeg)), (.double (ds cl.toNatClampNeg))])) := r88.trans (st89 _ (Steps.refl _))
  have r91 : Steps p.tables e below S0 (T89.setTop (mkF m 17 #[.val (.ref po), .val (.int cl)] [(.ref po), (.double ads), (.int (dc cl.toNatClampNeg)), (.double (ds cl.toNatClampNeg))])) := by
    refine r90.trans ?_
    show Steps p.tables e below (T89.setTop (mkF m 16 #[.val (.ref po), .val (.int cl)] [(.double ads), (.int (dc cl.toNatClampNeg)), (.double (ds cl.toNatClampNeg))])) _
    refine XS.aloadN X89.here hx rfl (hb hby d3_16) rfl rfl ?_
    exact Steps.refl _
  obtain ⟨T92, X92, e92, st92⟩ := getF X89 hx hZ hown (host := "") (Or.inl (hw _ (List.mem_of_getElem? (i := 26) rfl))) Via.refl e89 Fadc (g := (mkF m 17 #[.val (.ref po), .val (.int cl)] [(.ref po), (.double ads), (.int (dc cl.toNatClampNeg)), (.double (ds cl.toNatClampNeg))])) rfl rfl (hb hby d3_17)
  have r93 : Steps p.tables e below S0 (T92.setTop (mkF m 20 #[.val (.ref po), .val (.int cl)] [(.long adc), (.double ads), (.int (dc cl.toNatClampNeg)), (.double (ds cl.toNatClampNeg))])) := r91.trans (st92 _ (Steps.refl _))
  obtain ⟨_, _, ⟨T94, L94, k94, n94⟩, -, X94, ⟨Lc94, hQ94, l94, y94, z94⟩, st94⟩ := Jvm.LawKit.callS X92 hx (y := (⟨"com/example/pivotline/pivotline/Pseudocosts", "mean", "(DIDJ)D"⟩ : MethodName)) hown (mvT hZ (hw _ (List.mem_of_getElem? (i := 28) rfl))) (mvT hZ (hw _ (List.mem_of_getElem? (i := 29) rfl))) (mvT hZ (hw _ (List.mem_of_getElem? (i := 2) rfl))) (mvT hZ (hw _ (List.mem_of_getElem? (i := 30) rfl))) (by decide) (backOf (W := 0) (rmN0 l Z a0 hw [] (ds cl.toNatClampNeg) (dc cl.toNatClampNeg) ads adc h0 n0 Z0 (Int32.lt_iff_toInt_lt.mpr (by rw [show (0 : Int32).toInt = 0 by decide]; omega))  (div_noNaN yS (Dy.i2d _) (by omega))) hZ (hw _ (List.mem_of_getElem? (i := 30) rfl)) (hw _ (List.mem_of_getElem? (i := 2) rfl)) (by decide) (by decide)) (g := (mkF m 20 #[.val (.ref po), .val (.int cl)] [(.long adc), (.double ads), (.int (dc cl.toNatClampNeg)), (.double (ds cl.toNatClampNeg))])) rfl (by rw [hml]; rfl) (argsL := [(.double (ds cl.toNatClampNeg)), (.int (dc cl.toNatClampNeg)), (.double ads), (.long adc)]) (rest := []) (lenOf pd_1 rfl) rfl (by show 2 * 0 + _ ≤ _; exact Nat.le_of_eq rfl) (hb hby d3_20) (fun _ _ => ⟨rfl, e92, (by decide : 0 + 0 ≤ _), (by decide : 0 + 0 ≤ _)⟩)
  dsimp only [Pt.U, Pt.locs, Pt.cells, Pt.slots] at X94 l94 y94 z94 st94 hQ94
  subst l94 y94 z94
  obtain ⟨rfl, Nq94, e94⟩ := hQ94
  have N94 := Fr.app N0 Nq94
  have r95 : Steps p.tables e below S0 (T94.setTop (mkF m 23 #[.val (.ref po), .val (.int cl)] [(.double (FP.ddiv (ds cl.toNatClampNeg) (FP.i2d (dc cl.toNatClampNeg))))])) := r93.trans (st94 _ (Steps.refl _))
  obtain ⟨fs, hr, hrun, hended, hW, hsame⟩ := X94.leave (v := some (.double (FP.ddiv (ds cl.toNatClampNeg) (FP.i2d (dc cl.toNatClampNeg))))) (fun h => by rw [Bd.returns] at h; cases h)
  refine ⟨_, _, pre0 _ ?_, hrun, hended, _, _, rfl, ?_, ⟨_, rfl⟩, hW, hsame.mono (by decide) (by decide)⟩
  · rw [← hS0]
    refine r95.trans ?_
    show Steps p.tables e below (T94.setTop (mkF m 23 #[.val (.ref po), .val (.int cl)] [(.double (FP.ddiv (ds cl.toNatClampNeg) (FP.i2d (dc cl.toNatClampNeg))))])) _
    exact retD X94 hx Bd.returns (hb hby d3_23) hr
  · exact ⟨_, _, rfl, yS, hC, N94, e94⟩
def QmU1 (Z : State) (po : Addr) (cl : Int32) (a1 : Addr) (a2 : Addr) (a3 : Addr) (a4 : Addr) (SD : Nat → Int) (SU : Nat → Int) (CD : Nat → Int) (CU : Nat → Int) (AD : Int) (AU : Int) (ND : Int) (NU : Int) (h0 : Heap) (n0 : Nat) (v : Option Value) (h : Heap) (L : List Loc) : Prop := ∃ (sm : UInt64) (ct : Int64), v = some (.double (FP.ddiv sm (FP.l2d ct))) ∧ Dy AD 3 sm ∧ ct.toInt = ND ∧ Fr n0 L ∧ h = h0
set_option maxRecDepth 65536 in
set_option maxHeartbeats 40000000 in
theorem rmU1 (l : Launch) (Z : State) (a0 : Array Value) (hw : ∀ d ∈ tables_1, d.before a0 Z = true) (ws : List Jvm.Cond) (po : Addr) (cl : Int32) (a1 : Addr) (a2 : Addr) (a3 : Addr) (a4 : Addr) (SD : Nat → Int) (SU : Nat → Int) (CD : Nat → Int) (CU : Nat → Int) (AD : Int) (AU : Int) (ND : Int) (NU : Int) (h0 : Heap) (n0 : Nat) (Z0 : n0 ≤ h0.size) (hPS : PS Z h0 n0 po a1 a2 a3 a4 SD SU CD CU AD AU ND NU) (hcl : cl = 0 ∨ cl = 1) (bN : ND.natAbs ≤ 1000000) (h1 : ¬ 0 < CD cl.toNatClampNeg) (h2 : 0 < ND) :
    MetFree l (⟨"com/example/pivotline/pivotline/Pseudocosts", "down", "(I)D"⟩ : MethodName) (head1 (Jvm.Cond.code (⟨"com/example/pivotline/pivotline/Pseudocosts", "down", "(I)D"⟩ : MethodName) prog_24_method_3_code 2 (some .double) :: ws) ({ frames := 1, cells := 0, slots := 0, locals := 20 } : Room)) (fun a U => a = #[(.ref po), (.int cl)] ∧ Z.Warmed39 U.vm ∧ U.heap = h0) (fun _ _ _ _ _ => True) (fun _ U o U' => ∃ v L, o = .returned v ∧ QmU1 Z po cl a1 a2 a3 a4 SD SU CD CU AD AU ND NU h0 n0 v U'.heap L ∧ FrameEnd U o U' L ({ frames := 1, cells := 0, slots := 0, locals := 20 } : Room).cells ({ frames := 1, cells := 0, slots := 0, locals := 20 } : Room).slots) := by
  refine MetFree.of_bodySF (plainFor_of_name pn_3) hisR ?_
  intro p e s m args below meth c s₁ Bd hml0 hP hK
  obtain ⟨rfl, hZ, hh⟩ := hP
  have hx := Bd.exec
  have hby := Bd.bytes
  have hml : c.maxLocals = 2 := hml0
  have hown : s.vm.findClass "com/example/pivotline/pivotline/Pseudocosts" = some m.cls := findClass_of_methodNamed Bd.named
  have hnm := (name_of_methodNamed Bd.named Bd.method).1
  have X0 : Stand p l e ({ frames := 1, cells := 0, slots := 0, locals := 20 } : Room) s m #[(.ref po), (.int cl)] below meth c s₁ [] 0 0 := Stand.of_body Bd
  have e0 : s₁.heap = h0 := by rw [← hh, Bd.state]; rfl
  have N0 := Fr.nil n0
  have pre0 : ∀ t, Steps p.tables e below (s₁.setTop (mkF m 0 #[.val (.ref po), .val (.int cl)] [])) t → Steps p.tables e below (s₁.setTop (entryFrame m #[(.ref po), (.int cl)] 2)) t := fun t k => castTop (ef_3 m po cl) k
  obtain ⟨S0, hS0⟩ : ∃ z, z = s₁.setTop (mkF m 0 #[.val (.ref po), .val (.int cl)] []) := ⟨_, rfl⟩
  have r0 : Steps p.tables e below S0 (s₁.setTop (mkF m 0 #[.val (.ref po), .val (.int cl)] [])) := by rw [hS0]; exact Steps.refl _
  obtain ⟨ds, us, dc, uc, ads, aus, adc, auc, ⟨Epo, Fds, Fus, Fdc, Fuc, Fads, Faus, Fadc, Fauc⟩, ⟨Gds, Gus, Gdc, Guc⟩, ⟨g_po, g_a1, g_a2, g_a3, g_a4⟩, ⟨q01, q02, q03, q04, q12, q13, q14, q23, q24, q34⟩, ⟨yds, yus, hdc, huc, yads, yaus, hadc, hauc⟩⟩ := hPS
  obtain ⟨hc0, hc2⟩ := cl_ok hcl
  have yS := yds cl.toNatClampNeg hc2
  have hC := hdc cl.toNatClampNeg hc2
  have r96 : Steps p.tables e below S0 (s₁.setTop (mkF m 1 #[.val (.ref po), .val (.int cl)] [(.ref po)])) := by
    refine r0.trans ?_
    show Steps p.tables e below (s₁.setTop (mkF m 0 #[.val (.ref po), .val (.int cl)] [])) _
    refine XS.aloadN X0.here hx rfl (hb hby d3_0) rfl rfl ?_
    exact Steps.refl _
  obtain ⟨T97, X97, e97, st97⟩ := getF X0 hx hZ hown (host := "") (Or.inl (hw _ (List.mem_of_getElem? (i := 10) rfl))) Via.refl e0 Fds (g := (mkF m 1 #[.val (.ref po), .val (.int cl)] [(.ref po)])) rfl rfl (hb hby d3_1)
  have r98 : Steps p.tables e below S0 (T97.setTop (mkF m 4 #[.val (.ref po), .val (.int cl)] [(.ref a1)])) := r96.trans (st97 _ (Steps.refl _))
  have r99 : Steps p.tables e below S0 (T97.setTop (mkF m 7 #[.val (.ref po), .val (.int cl)] [(.ref po), (.double (ds cl.toNatClampNeg))])) := by
    refine r98.trans ?_
    show Steps p.tables e below (T97.setTop (mkF m 4 #[.val (.ref po), .val (.int cl)] [(.ref a1)])) _
    refine XS.iloadN X97.here hx rfl (hb hby d3_4) rfl ?_
    show Steps p.tables e below (T97.setTop (mkF m 5 #[.val (.ref po), .val (.int cl)] [(.int cl), (.ref a1)])) _
    refine ldD X97 hx hZ e97 Gds (j := cl) hc0 hc2 (v := (.double (ds cl.toNatClampNeg))) rfl (g := (mkF m 5 #[.val (.ref po), .val (.int cl)] [(.int cl), (.ref a1)])) rfl rfl (hb hby d3_5) _ ?_
    show Steps p.tables e below (T97.setTop (mkF m 6 #[.val (.ref po), .val (.int cl)] [(.double (ds cl.toNatClampNeg))])) _
    refine XS.aloadN X97.here hx rfl (hb hby d3_6) rfl rfl ?_
    exact Steps.refl _
  obtain ⟨T100, X100, e100, st100⟩ := getF X97 hx hZ hown (host := "") (Or.inl (hw _ (List.mem_of_getElem? (i := 15) rfl))) Via.refl e97 Fdc (g := (mkF m 7 #[.val (.ref po), .val (.int cl)] [(.ref po), (.double (ds cl.toNatClampNeg))])) rfl rfl (hb hby d3_7)
  have r101 : Steps p.tables e below S0 (T100.setTop (mkF m 10 #[.val (.ref po), .val (.int cl)] [(.ref a3), (.double (ds cl.toNatClampNeg))])) := r99.trans (st100 _ (Steps.refl _))
  have r102 : Steps p.tables e below S0 (T100.setTop (mkF m 13 #[.val (.ref po), .val (.int cl)] [(.ref po), (.int (dc cl.toNatClampNeg)), (.double (ds cl.toNatClampNeg))])) := by
    refine r101.trans ?_
    show Steps p.tables e below (T100.setTop (mkF m 10 #[.val (.ref po), .val (.int cl)] [(.ref a3), (.double (ds cl.toNatClampNeg))])) _
    refine XS.iloadN X100.here hx rfl (hb hby d3_10) rfl ?_
    show Steps p.tables e below (T100.setTop (mkF m 11 #[.val (.ref po), .val (.int cl)] [(.int cl), (.ref a3), (.double (ds cl.toNatClampNeg))])) _
    refine ldI X100 hx hZ e100 Gdc (j := cl) hc0 hc2 (v := (.int (dc cl.toNatClampNeg))) rfl (g := (mkF m 11 #[.val (.ref po), .val (.int cl)] [(.int cl), (.ref a3), (.double (ds cl.toNatClampNeg))])) rfl rfl (hb hby d3_11) _ ?_
    show Steps p.tables e below (T100.setTop (mkF m 12 #[.val (.ref po), .val (.int cl)] [(.int (dc cl.toNatClampNeg)), (.double (ds cl.toNatClampNeg))])) _
    refine XS.aloadN X100.here hx rfl (hb hby d3_12) rfl rfl ?_
    exact Steps.refl _
  obtain ⟨T103, X103, e103, st103⟩ := getF X100 hx hZ hown (host := "") (Or.inl (hw _ (List.mem_of_getElem? (i := 24) rfl))) Via.refl e100 Fads (g := (mkF m 13 #[.val (.ref po), .val (.int cl)] [(.ref po), (.int (dc cl.toNatClampNeg)), (.double (ds cl.toNatClampNeg))])) rfl rfl (hb hby d3_13)
  have r104 : Steps p.tables e below S0 (T103.setTop (mkF m 16 #[.val (.ref po), .val (.int cl)] [(.double ads), (.int (dc cl.toNatClampNeg)), (.double (ds cl.toNatClampNeg))])) := r102.trans (st103 _ (Steps.refl _))
  have r105 : Steps p.tables e below S0 (T103.setTop (mkF m 17 #[.val (.ref po), .val (.int cl)] [(.ref po), (.double ads), (.int (dc cl.toNatClampNeg)), (.double (ds cl.toNatClampNeg))])) := by
    refine r104.trans ?_
    show Steps p.tables e below (T103.setTop (mkF m 16 #[.val (.ref po), .val (.int cl)] [(.double ads), (.int (dc cl.toNatClampNeg)), (.double (ds cl.toNatClampNeg))])) _
    refine XS.aloadN X103.here hx rfl (hb hby d3_16) rfl rfl ?_
    exact Steps.refl _
  obtain ⟨T106, X106, e106, st106⟩ := getF X103 hx hZ hown (host := "") (Or.inl (hw _ (List.mem_of_getElem? (i := 26) rfl))) Via.refl e103 Fadc (g := (mkF m 17 #[.val (.ref po), .val (.int cl)] [(.ref po), (.double ads), (.int (dc cl.toNatClampNeg)), (.double (ds cl.toNatClampNeg))])) rfl rfl (hb hby d3_17)
  have r107 : Steps p.tables e below S0 (T106.setTop (mkF m 20 #[.val (.ref po), .val (.int cl)] [(.long adc), (.double ads), (.int (dc cl.toNatClampNeg)), (.double (ds cl.toNatClampNeg))])) := r105.trans (st106 _ (Steps.refl _))
  obtain ⟨_, _, ⟨T108, L108, k108, n108⟩, -, X108, ⟨Lc108, hQ108, l108, y108, z108⟩, st108⟩ := Jvm.LawKit.callS X106 hx (y := (⟨"com/example/pivotline/pivotline/Pseudocosts", "mean", "(DIDJ)D"⟩ : MethodName)) hown (mvT hZ (hw _ (List.mem_of_getElem? (i := 28) rfl))) (mvT hZ (hw _ (List.mem_of_getElem? (i := 29) rfl))) (mvT hZ (hw _ (List.mem_of_getElem? (i := 2) rfl))) (mvT hZ (hw _ (List.mem_of_getElem? (i := 30) rfl))) (by decide) (backOf (W := 0) (rmN1 l Z a0 hw [] (ds cl.toNatClampNeg) (dc cl.toNatClampNeg) ads adc h0 n0 Z0 (fun z => by have := Int32.lt_iff_toInt_lt.mp z; rw [show (0 : Int32).toInt = 0 by decide] at this; omega) (Int64.lt_iff_toInt_lt.mpr (by rw [show (0 : Int64).toInt = 0 by decide]; omega)) (div_noNaN yads (Dy.l2d (by omega)) (by omega))) hZ (hw _ (List.mem_of_getElem? (i := 30) rfl)) (hw _ (List.mem_of_getElem? (i := 2) rfl)) (by decide) (by decide)) (g := (mkF m 20 #[.val (.ref po), .val (.int cl)] [(.long adc), (.double ads), (.int (dc cl.toNatClampNeg)), (.double (ds cl.toNatClampNeg))])) rfl (by rw [hml]; rfl) (argsL := [(.double (ds cl.toNatClampNeg)), (.int (dc cl.toNatClampNeg)), (.double ads), (.long adc)]) (rest := []) (lenOf pd_1 rfl) rfl (by show 2 * 0 + _ ≤ _; exact Nat.le_of_eq rfl) (hb hby d3_20) (fun _ _ => ⟨rfl, e106, (by decide : 0 + 0 ≤ _), (by decide : 0 + 0 ≤ _)⟩)
  dsimp only [Pt.U, Pt.locs, Pt.cells, Pt.slots] at X108 l108 y108 z108 st108 hQ108
  subst l108 y108 z108
  obtain ⟨rfl, Nq108, e108⟩ := hQ108
  have N108 := Fr.app N0 Nq108
  have r109 : Steps p.tables e below S0 (T108.setTop (mkF m 23 #[.val (.ref po), .val (.int cl)] [(.double (FP.ddiv ads (FP.l2d adc)))])) := r107.trans (st108 _ (Steps.refl _))
  obtain ⟨fs, hr, hrun, hended, hW, hsame⟩ := X108.leave (v := some (.double (FP.ddiv ads (FP.l2d adc)))) (fun h => by rw [Bd.returns] at h; cases h)
  refine ⟨_, _, pre0 _ ?_, hrun, hended, _, _, rfl, ?_, ⟨_, rfl⟩, hW, hsame.mono (by decide) (by decide)⟩
  · rw [← hS0]
    refine r109.trans ?_
    show Steps p.tables e below (T108.setTop (mkF m 23 #[.val (.ref po), .val (.int cl)] [(.double (FP.ddiv ads (FP.l2d adc)))])) _
    exact retD X108 hx Bd.returns (hb hby d3_23) hr
  · exact ⟨_, _, rfl, yads, hadc, N108, e108⟩
def QmU2 (Z : State) (po : Addr) (cl : Int32) (a1 : Addr) (a2 : Addr) (a3 : Addr) (a4 : Addr) (SD : Nat → Int) (SU : Nat → Int) (CD : Nat → Int) (CU : Nat → Int) (AD : Int) (AU : Int) (ND : Int) (NU : Int) (h0 : Heap) (n0 : Nat) (v : Option Value) (h : Heap) (L : List Loc) : Prop := v = some (.double FP.dconst1) ∧ Fr n0 L ∧ h = h0
set_option maxRecDepth 65536 in
set_option maxHeartbeats 40000000 in
theorem rmU2 (l : Launch) (Z : State) (a0 : Array Value) (hw : ∀ d ∈ tables_1, d.before a0 Z = true) (ws : List Jvm.Cond) (po : Addr) (cl : Int32) (a1 : Addr) (a2 : Addr) (a3 : Addr) (a4 : Addr) (SD : Nat → Int) (SU : Nat → Int) (CD : Nat → Int) (CU : Nat → Int) (AD : Int) (AU : Int) (ND : Int) (NU : Int) (h0 : Heap) (n0 : Nat) (Z0 : n0 ≤ h0.size) (hPS : PS Z h0 n0 po a1 a2 a3 a4 SD SU CD CU AD AU ND NU) (hcl : cl = 0 ∨ cl = 1) (bN : ND.natAbs ≤ 1000000) (h1 : ¬ 0 < CD cl.toNatClampNeg) (h2 : ¬ 0 < ND) :
    MetFree l (⟨"com/example/pivotline/pivotline/Pseudocosts", "down", "(I)D"⟩ : MethodName) (head1 (Jvm.Cond.code (⟨"com/example/pivotline/pivotline/Pseudocosts", "down", "(I)D"⟩ : MethodName) prog_24_method_3_code 2 (some .double) :: ws) ({ frames := 1, cells := 0, slots := 0, locals := 20 } : Room)) (fun a U => a = #[(.ref po), (.int cl)] ∧ Z.Warmed39 U.vm ∧ U.heap = h0) (fun _ _ _ _ _ => True) (fun _ U o U' => ∃ v L, o = .returned v ∧ QmU2 Z po cl a1 a2 a3 a4 SD SU CD CU AD AU ND NU h0 n0 v U'.heap L ∧ FrameEnd U o U' L ({ frames := 1, cells := 0, slots := 0, locals := 20 } : Room).cells ({ frames := 1, cells := 0, slots := 0, locals := 20 } : Room).slots) := by
  refine MetFree.of_bodySF (plainFor_of_name pn_3) hisR ?_
  intro p e s m args below meth c s₁ Bd hml0 hP hK
  obtain ⟨rfl, hZ, hh⟩ := hP
  have hx := Bd.exec
  have hby := Bd.bytes
  have hml : c.maxLocals = 2 := hml0
  have hown : s.vm.findClass "com/example/pivotline/pivotline/Pseudocosts" = some m.cls := findClass_of_methodNamed Bd.named
  have hnm := (name_of_methodNamed Bd.named Bd.method).1
  have X0 : Stand p l e ({ frames := 1, cells := 0, slots := 0, locals := 20 } : Room) s m #[(.ref po), (.int cl)] below meth c s₁ [] 0 0 := Stand.of_body Bd
  have e0 : s₁.heap = h0 := by rw [← hh, Bd.state]; rfl
  have N0 := Fr.nil n0
  have pre0 : ∀ t, Steps p.tables e below (s₁.setTop (mkF m 0 #[.val (.ref po), .val (.int cl)] [])) t → Steps p.tables e below (s₁.setTop (entryFrame m #[(.ref po), (.int cl)] 2)) t := fun t k => castTop (ef_3 m po cl) k
  obtain ⟨S0, hS0⟩ : ∃ z, z = s₁.setTop (mkF m 0 #[.val (.ref po), .val (.int cl)] []) := ⟨_, rfl⟩
  have r0 : Steps p.tables e below S0 (s₁.setTop (mkF m 0 #[.val (.ref po), .val (.int cl)] [])) := by rw [hS0]; exact Steps.refl _
  obtain ⟨ds, us, dc, uc, ads, aus, adc, auc, ⟨Epo, Fds, Fus, Fdc, Fuc, Fads, Faus, Fadc, Fauc⟩, ⟨Gds, Gus, Gdc, Guc⟩, ⟨g_po, g_a1, g_a2, g_a3, g_a4⟩, ⟨q01, q02, q03, q04, q12, q13, q14, q23, q24, q34⟩, ⟨yds, yus, hdc, huc, yads, yaus, hadc, hauc⟩⟩ := hPS
  obtain ⟨hc0, hc2⟩ := cl_ok hcl
  have yS := yds cl.toNatClampNeg hc2
  have hC := hdc cl.toNatClampNeg hc2
  have r110 : Steps p.tables e below S0 (s₁.setTop (mkF m 1 #[.val (.ref po), .val (.int cl)] [(.ref po)])) := by
    refine r0.trans ?_
    show Steps p.tables e below (s₁.setTop (mkF m 0 #[.val (.ref po), .val (.int cl)] [])) _
    refine XS.aloadN X0.here hx rfl (hb hby d3_0) rfl rfl ?_
    exact Steps.refl _
  obtain ⟨T111, X111, e111, st111⟩ := getF X0 hx hZ hown (host := "") (Or.inl (hw _ (List.mem_of_getElem? (i := 10) rfl))) Via.refl e0 Fds (g := (mkF m 1 #[.val (.ref po), .val (.int cl)] [(.ref po)])) rfl rfl (hb hby d3_1)
  have r112 : Steps p.tables e below S0 (T111.setTop (mkF m 4 #[.val (.ref po), .val (.int cl)] [(.ref a1)])) := r110.trans (st111 _ (Steps.refl _))
  have r113 : Steps p.tables e below S0 (T111.setTop (mkF m 7 #[.val (.ref po), .val (.int cl)] [(.ref po), (.double (ds cl.toNatClampNeg))])) := by
    refine r112.trans ?_
    show Steps p.tables e below (T111.setTop (mkF m 4 #[.val (.ref po), .val (.int cl)] [(.ref a1)])) _
    refine XS.iloadN X111.here hx rfl (hb hby d3_4) rfl ?_
    show Steps p.tables e below (T111.setTop (mkF m 5 #[.val (.ref po), .val (.int cl)] [(.int cl), (.ref a1)])) _
    refine ldD X111 hx hZ e111 Gds (j := cl) hc0 hc2 (v := (.double (ds cl.toNatClampNeg))) rfl (g := (mkF m 5 #[.val (.ref po), .val (.int cl)] [(.int cl), (.ref a1)])) rfl rfl (hb hby d3_5) _ ?_
    show Steps p.tables e below (T111.setTop (mkF m 6 #[.val (.ref po), .val (.int cl)] [(.double (ds cl.toNatClampNeg))])) _
    refine XS.aloadN X111.here hx rfl (hb hby d3_6) rfl rfl ?_
    exact Steps.refl _
  obtain ⟨T114, X114, e114, st114⟩ := getF X111 hx hZ hown (host := "") (Or.inl (hw _ (List.mem_of_getElem? (i := 15) rfl))) Via.refl e111 Fdc (g := (mkF m 7 #[.val (.ref po), .val (.int cl)] [(.ref po), (.double (ds cl.toNatClampNeg))])) rfl rfl (hb hby d3_7)
  have r115 : Steps p.tables e below S0 (T114.setTop (mkF m 10 #[.val (.ref po), .val (.int cl)] [(.ref a3), (.double (ds cl.toNatClampNeg))])) := r113.trans (st114 _ (Steps.refl _))
  have r116 : Steps p.tables e below S0 (T114.setTop (mkF m 13 #[.val (.ref po), .val (.int cl)] [(.ref po), (.int (dc cl.toNatClampNeg)), (.double (ds cl.toNatClampNeg))])) := by
    refine r115.trans ?_
    show Steps p.tables e below (T114.setTop (mkF m 10 #[.val (.ref po), .val (.int cl)] [(.ref a3), (.double (ds cl.toNatClampNeg))])) _
    refine XS.iloadN X114.here hx rfl (hb hby d3_10) rfl ?_
    show Steps p.tables e below (T114.setTop (mkF m 11 #[.val (.ref po), .val (.int cl)] [(.int cl), (.ref a3), (.double (ds cl.toNatClampNeg))])) _
    refine ldI X114 hx hZ e114 Gdc (j := cl) hc0 hc2 (v := (.int (dc cl.toNatClampNeg))) rfl (g := (mkF m 11 #[.val (.ref po), .val (.int cl)] [(.int cl), (.ref a3), (.double (ds cl.toNatClampNeg))])) rfl rfl (hb hby d3_11) _ ?_
    show Steps p.tables e below (T114.setTop (mkF m 12 #[.val (.ref po), .val (.int cl)] [(.int (dc cl.toNatClampNeg)), (.double (ds cl.toNatClampNeg))])) _
    refine XS.aloadN X114.here hx rfl (hb hby d3_12) rfl rfl ?_
    exact Steps.refl _
  obtain ⟨T117, X117, e117, st117⟩ := getF X114 hx hZ hown (host := "") (Or.inl (hw _ (List.mem_of_getElem? (i := 24) rfl))) Via.refl e114 Fads (g := (mkF m 13 #[.val (.ref po), .val (.int cl)] [(.ref po), (.int (dc cl.toNatClampNeg)), (.double (ds cl.toNatClampNeg))])) rfl rfl (hb hby d3_13)
  have r118 : Steps p.tables e below S0 (T117.setTop (mkF m 16 #[.val (.ref po), .val (.int cl)] [(.double ads), (.int (dc cl.toNatClampNeg)), (.double (ds cl.toNatClampNeg))])) := r116.trans (st117 _ (Steps.refl _))
  have r119 : Steps p.tables e below S0 (T117.setTop (mkF m 17 #[.val (.ref po), .val (.int cl)] [(.ref po), (.double ads), (.int (dc cl.toNatClampNeg)), (.double (ds cl.toNatClampNeg))])) := by
    refine r118.trans ?_
    show Steps p.tables e below (T117.setTop (mkF m 16 #[.val (.ref po), .val (.int cl)] [(.double ads), (.int (dc cl.toNatClampNeg)), (.double (ds cl.toNatClampNeg))])) _
    refine XS.aloadN X117.here hx rfl (hb hby d3_16) rfl rfl ?_
    exact Steps.refl _
  obtain ⟨T120, X120, e120, st120⟩ := getF X117 hx hZ hown (host := "") (Or.inl (hw _ (List.mem_of_getElem? (i := 26) rfl))) Via.refl e117 Fadc (g := (mkF m 17 #[.val (.ref po), .val (.int cl)] [(.ref po), (.double ads), (.int (dc cl.toNatClampNeg)), (.double (ds cl.toNatClampNeg))])) rfl rfl (hb hby d3_17)
  have r121 : Steps p.tables e below S0 (T120.setTop (mkF m 20 #[.val (.ref po), .val (.int cl)] [(.long adc), (.double ads), (.int (dc cl.toNatClampNeg)), (.double (ds cl.toNatClampNeg))])) := r119.trans (st120 _ (Steps.refl _))
  obtain ⟨_, _, ⟨T122, L122, k122, n122⟩, -, X122, ⟨Lc122, hQ122, l122, y122, z122⟩, st122⟩ := Jvm.LawKit.callS X120 hx (y := (⟨"com/example/pivotline/pivotline/Pseudocosts", "mean", "(DIDJ)D"⟩ : MethodName)) hown (mvT hZ (hw _ (List.mem_of_getElem? (i := 28) rfl))) (mvT hZ (hw _ (List.mem_of_getElem? (i := 29) rfl))) (mvT hZ (hw _ (List.mem_of_getElem? (i := 2) rfl))) (mvT hZ (hw _ (List.mem_of_getElem? (i := 30) rfl))) (by decide) (backOf (W := 0) (rmN2 l Z a0 hw [] (ds cl.toNatClampNeg) (dc cl.toNatClampNeg) ads adc h0 n0 Z0 (fun z => by have := Int32.lt_iff_toInt_lt.mp z; rw [show (0 : Int32).toInt = 0 by decide] at this; omega) (fun z => by have := Int64.lt_iff_toInt_lt.mp z; rw [show (0 : Int64).toInt = 0 by decide] at this; omega) ) hZ (hw _ (List.mem_of_getElem? (i := 30) rfl)) (hw _ (List.mem_of_getElem? (i := 2) rfl)) (by decide) (by decide)) (g := (mkF m 20 #[.val (.ref po), .val (.int cl)] [(.long adc), (.double ads), (.int (dc cl.toNatClampNeg)), (.double (ds cl.toNatClampNeg))])) rfl (by rw [hml]; rfl) (argsL := [(.double (ds cl.toNatClampNeg)), (.int (dc cl.toNatClampNeg)), (.double ads), (.long adc)]) (rest := []) (lenOf pd_1 rfl) rfl (by show 2 * 0 + _ ≤ _; exact Nat.le_of_eq rfl) (hb hby d3_20) (fun _ _ => ⟨rfl, e120, (by decide : 0 + 0 ≤ _), (by decide : 0 + 0 ≤ _)⟩)
  dsimp only [Pt.U, Pt.locs, Pt.cells, Pt.slots] at X122 l122 y122 z122 st122 hQ122
  subst l122 y122 z122
  obtain ⟨rfl, Nq122, e122⟩ := hQ122
  have N122 := Fr.app N0 Nq122
  have r123 : Steps p.tables e below S0 (T122.setTop (mkF m 23 #[.val (.ref po), .val (.int cl)] [(.double FP.dconst1)])) := r121.trans (st122 _ (Steps.refl _))
  obtain ⟨fs, hr, hrun, hended, hW, hsame⟩ := X122.leave (v := some (.double FP.dconst1)) (fun h => by rw [Bd.returns] at h; cases h)
  refine ⟨_, _, pre0 _ ?_, hrun, hended, _, _, rfl, ?_, ⟨_, rfl⟩, hW, hsame.mono (by decide) (by decide)⟩
  · rw [← hS0]
    refine r123.trans ?_
    show Steps p.tables e below (T122.setTop (mkF m 23 #[.val (.ref po), .val (.int cl)] [(.double FP.dconst1)])) _
    exact retD X122 hx Bd.returns (hb hby d3_23) hr
  · exact ⟨rfl, N122, e122⟩
theorem pn_5 : plainName "com/example/pivotline/pivotline/PseudocostsDownPinLaw" = true := by first | (simp [plainName, overriddenIn]; done) | decide +kernel
theorem ef_5 (m : MethodId) (x0 : UInt64) : entryFrame m #[(.double x0)] 2 = mkF m 0 #[.val (.double x0), .second] [] := by first | (simp [entryFrame, mkF, argsToLocals, Value.category]; done) | rfl
def QmZ (Z : State) (u : UInt64) (i : Int) (h0 : Heap) (n0 : Nat) (v : Option Value) (h : Heap) (L : List Loc) : Prop := ∃ z, v = some (.double z) ∧ Dy (max i 0) 0 z ∧ Fr n0 L ∧ h = h0
set_option maxRecDepth 65536 in
set_option maxHeartbeats 40000000 in
theorem rmZ (l : Launch) (Z : State) (a0 : Array Value) (hw : ∀ d ∈ tables_1, d.before a0 Z = true) (ws : List Jvm.Cond) (u : UInt64) (i : Int) (h0 : Heap) (n0 : Nat) (Z0 : n0 ≤ h0.size) (y : Dy i 0 u) :
    MetFree l (⟨"com/example/pivotline/pivotline/PseudocostsDownPinLaw", "pos", "(D)D"⟩ : MethodName) (head1 (Jvm.Cond.code (⟨"com/example/pivotline/pivotline/PseudocostsDownPinLaw", "pos", "(D)D"⟩ : MethodName) method_3_code 2 (some .double) :: ws) ({ frames := 0, cells := 0, slots := 0, locals := 0 } : Room)) (fun a U => a = #[(.double u)] ∧ Z.Warmed39 U.vm ∧ U.heap = h0) (fun _ _ _ _ _ => True) (fun _ U o U' => ∃ v L, o = .returned v ∧ QmZ Z u i h0 n0 v U'.heap L ∧ FrameEnd U o U' L ({ frames := 0, cells := 0, slots := 0, locals := 0 } : Room).cells ({ frames := 0, cells := 0, slots := 0, locals := 0 } : Room).slots) := by
  refine MetFree.of_bodySF (plainFor_of_name pn_5) hisR ?_
  intro p e s m args below meth c s₁ Bd hml0 hP hK
  obtain ⟨rfl, hZ, hh⟩ := hP
  have hx := Bd.exec
  have hby := Bd.bytes
  have hml : c.maxLocals = 2 := hml0
  have hown : s.vm.findClass "com/example/pivotline/pivotline/PseudocostsDownPinLaw" = some m.cls := findClass_of_methodNamed Bd.named
  have hnm := (name_of_methodNamed Bd.named Bd.method).1
  have X0 : Stand p l e ({ frames := 0, cells := 0, slots := 0, locals := 0 } : Room) s m #[(.double u)] below meth c s₁ [] 0 0 := Stand.of_body Bd
  have e0 : s₁.heap = h0 := by rw [← hh, Bd.state]; rfl
  have N0 := Fr.nil n0
  have pre0 : ∀ t, Steps p.tables e below (s₁.setTop (mkF m 0 #[.val (.double u), .second] [])) t → Steps p.tables e below (s₁.setTop (entryFrame m #[(.double u)] 2)) t := fun t k => castTop (ef_5 m u) k
  obtain ⟨S0, hS0⟩ : ∃ z, z = s₁.setTop (mkF m 0 #[.val (.double u), .second] []) := ⟨_, rfl⟩
  have r0 : Steps p.tables e below S0 (s₁.setTop (mkF m 0 #[.val (.double u), .second] [])) := by rw [hS0]; exact Steps.refl _
  have hcm := y.cmpV dy_zero .l
  have r124 : Steps p.tables e below S0 (s₁.setTop (mkF m 3 #[.val (.double u), .second] [(.int (cmpValue (FP.dcmp u FP.dconst0) .l))])) := by
    refine r0.trans ?_
    show Steps p.tables e below (s₁.setTop (mkF m 0 #[.val (.double u), .second] [])) _
    refine XS.dloadN X0.here hx rfl (hb hby d5_0) rfl ?_
    show Steps p.tables e below (s₁.setTop (mkF m 1 #[.val (.double u), .second] [(.double u)])) _
    refine XS.dconst0 X0.here hx rfl (hb hby d5_1) rfl ?_
    show Steps p.tables e below (s₁.setTop (mkF m 2 #[.val (.double u), .second] [(.double FP.dconst0), (.double u)])) _
    refine XS.dcmpS X0.here hx rfl (hb hby d5_2) rfl rfl ?_
    exact Steps.refl _
  by_cases hP : 0 < i
  · skip
    have hq : (0 : Int32) < (cmpValue (FP.dcmp u FP.dconst0) .l) := by rw [hcm, if_neg (by omega), if_neg (by omega)]; decide
    have r125 : Steps p.tables e below S0 (s₁.setTop (mkF m 11 #[.val (.double u), .second] [(.double u)])) := by
      refine r124.trans ?_
      show Steps p.tables e below (s₁.setTop (mkF m 3 #[.val (.double u), .second] [(.int (cmpValue (FP.dcmp u FP.dconst0) .l))])) _
      refine XS.ifNo X0.here hx rfl (hb hby d5_3) rfl ((if0 _ _).trans (tlt hq).2.2.2) ?_
      show Steps p.tables e below (s₁.setTop (mkF m 6 #[.val (.double u), .second] [])) _
      refine XS.dloadN X0.here hx rfl (hb hby d5_6) rfl ?_
      show Steps p.tables e below (s₁.setTop (mkF m 7 #[.val (.double u), .second] [(.double u)])) _
      refine XS.goto X0.here hx rfl (pc0 := 7) (pc' := 11) rfl (hb hby d5_7) (by decide) (by decide) ?_
      exact Steps.refl _
    obtain ⟨fs, hr, hrun, hended, hW, hsame⟩ := X0.leave (v := some (.double u)) (fun h => by rw [Bd.returns] at h; cases h)
    refine ⟨_, _, pre0 _ ?_, hrun, hended, _, _, rfl, ?_, ⟨_, rfl⟩, hW, hsame.mono (by decide) (by decide)⟩
    · rw [← hS0]
      refine r125.trans ?_
      show Steps p.tables e below (s₁.setTop (mkF m 11 #[.val (.double u), .second] [(.double u)])) _
      exact retD X0 hx Bd.returns (hb hby d5_11) hr
    · exact ⟨_, rfl, y.cast (by omega) rfl, N0, e0⟩
  · skip
    have hq : ¬ (0 : Int32) < (cmpValue (FP.dcmp u FP.dconst0) .l) := by
      rw [hcm]
      by_cases z : i < 0
      · rw [if_pos z]; decide
      · rw [if_neg z, if_pos (by omega)]; decide
    have r126 : Steps p.tables e below S0 (s₁.setTop (mkF m 11 #[.val (.double u), .second] [(.double FP.dconst0)])) := by
      refine r124.trans ?_
      show Steps p.tables e below (s₁.setTop (mkF m 3 #[.val (.double u), .second] [(.int (cmpValue (FP.dcmp u FP.dconst0) .l))])) _
      refine XS.ifYes X0.here hx rfl (pc0 := 3) (pc' := 10) rfl (hb hby d5_3) rfl ((if0 _ _).trans (flt hq).2.2.2) (by decide) (by decide) ?_
      show Steps p.tables e below (s₁.setTop (mkF m 10 #[.val (.double u), .second] [])) _
      refine XS.dconst0 X0.here hx rfl (hb hby d5_10) rfl ?_
      exact Steps.refl _
    obtain ⟨fs, hr, hrun, hended, hW, hsame⟩ := X0.leave (v := some (.double FP.dconst0)) (fun h => by rw [Bd.returns] at h; cases h)
    refine ⟨_, _, pre0 _ ?_, hrun, hended, _, _, rfl, ?_, ⟨_, rfl⟩, hW, hsame.mono (by decide) (by decide)⟩
    · rw [← hS0]
      refine r126.trans ?_
      show Steps p.tables e below (s₁.setTop (mkF m 11 #[.val (.double u), .second] [(.double FP.dconst0)])) _
      exact retD X0 hx Bd.returns (hb hby d5_11) hr
    · exact ⟨_, rfl, dy_zero.cast (by omega) rfl, N0, e0⟩
theorem pn_0 : plainName "com/example/pivotline/pivotline/PseudocostsDownPinLaw" = true := by first | (simp [plainName, overriddenIn]; done) | decide +kernel
theorem ef_0 (m : MethodId) (x0 : Int32) (x1 : Int32) (x2 : Int32) (x3 : Int32) (x4 : Int32) : entryFrame m #[(.int x0), (.int x1), (.int x2), (.int x3), (.int x4)] maxLocals = mkF m 0 #[.val (.int x0), .val (.int x1), .val (.int x2), .val (.int x3), .val (.int x4), .unset, .unset, .unset, .unset, .unset, .unset, .unset, .unset, .unset, .unset, .unset, .unset, .unset, .unset, .unset, .unset, .unset, .unset, .unset, .unset, .unset, .unset, .unset, .unset, .unset, .unset, .unset, .unset, .unset, .unset, .unset, .unset, .unset, .unset, .unset, .unset, .unset, .unset, .unset, .unset, .unset, .unset] [] := by first | (simp [entryFrame, mkF, argsToLocals, Value.category, maxLocals]; done) | rfl
def Qm0 (Z : State) (p1 : Int32) (p2 : Int32) (p3 : Int32) (p4 : Int32) (p5 : Int32)  (h0 : Heap) (n0 : Nat) (v : Option Value) (h : Heap) (L : List Loc) : Prop := v = some (.int 1) ∧ Fr n0 L
set_option maxRecDepth 65536 in
set_option maxHeartbeats 40000000 in
theorem rm0 (l : Launch) (Z : State) (a0 : Array Value) (hw : ∀ d ∈ tables_1, d.before a0 Z = true) (ws : List Jvm.Cond) (p1 : Int32) (p2 : Int32) (p3 : Int32) (p4 : Int32) (p5 : Int32)  (h0 : Heap) (n0 : Nat) (Z0 : n0 ≤ h0.size)  :
    MetFree l x (head1 (Jvm.Cond.code x code maxLocals ret :: ws) room_1) (fun a U => a = #[(.int p1), (.int p2), (.int p3), (.int p4), (.int p5)] ∧ Z.Warmed39 U.vm ∧ U.heap = h0) (fun _ _ _ _ _ => True) (fun _ U o U' => ∃ v L, o = .returned v ∧ Qm0 Z p1 p2 p3 p4 p5 h0 n0 v U'.heap L ∧ FrameEnd U o U' L room_1.cells room_1.slots) := by
  refine MetFree.of_bodySF (plainFor_of_name pn_0) hisR ?_
  intro p e s m args below meth c s₁ Bd hml0 hP hK
  obtain ⟨rfl, hZ, hh⟩ := hP
  have hx := Bd.exec
  have hby := Bd.bytes
  have hml : c.maxLocals = 47 := hml0
  have hown : s.vm.findClass "com/example/pivotline/pivotline/PseudocostsDownPinLaw" = some m.cls := findClass_of_methodNamed Bd.named
  have hnm := (name_of_methodNamed Bd.named Bd.method).1
  have X0 : Stand p l e room_1 s m #[(.int p1), (.int p2), (.int p3), (.int p4), (.int p5)] below meth c s₁ [] 0 0 := Stand.of_body Bd
  have e0 : s₁.heap = h0 := by rw [← hh, Bd.state]; rfl
  have N0 := Fr.nil n0
  have pre0 : ∀ t, Steps p.tables e below (s₁.setTop (mkF m 0 #[.val (.int p1), .val (.int p2), .val (.int p3), .val (.int p4), .val (.int p5), .unset, .unset, .unset, .unset, .unset, .unset, .unset, .unset, .unset, .unset, .unset, .unset, .unset, .unset, .unset, .unset, .unset, .unset, .unset, .unset, .unset, .unset, .unset, .unset, .unset, .unset, .unset, .unset, .unset, .unset, .unset, .unset, .unset, .unset, .unset, .unset, .unset, .unset, .unset, .unset, .unset, .unset] [])) t → Steps p.tables e below (s₁.setTop (entryFrame m #[(.int p1), (.int p2), (.int p3), (.int p4), (.int p5)] maxLocals)) t := fun t k => castTop (ef_0 m p1 p2 p3 p4 p5) k
  obtain ⟨S0, hS0⟩ : ∃ z, z = s₁.setTop (mkF m 0 #[.val (.int p1), .val (.int p2), .val (.int p3), .val (.int p4), .val (.int p5), .unset, .unset, .unset, .unset, .unset, .unset, .unset, .unset, .unset, .unset, .unset, .unset, .unset, .unset, .unset, .unset, .unset, .unset, .unset, .unset, .unset, .unset, .unset, .unset, .unset, .unset, .unset, .unset, .unset, .unset, .unset, .unset, .unset, .unset, .unset, .unset, .unset, .unset, .unset, .unset, .unset, .unset] []) := ⟨_, rfl⟩
  have r0 : Steps p.tables e below S0 (s₁.setTop (mkF m 0 #[.val (.int p1), .val (.int p2), .val (.int p3), .val (.int p4), .val (.int p5), .unset, .unset, .unset, .unset, .unset, .unset, .unset, .unset, .unset, .unset, .unset, .unset, .unset, .unset, .unset, .unset, .unset, .unset, .unset, .unset, .unset, .unset, .unset, .unset, .unset, .unset, .unset, .unset, .unset, .unset, .unset, .unset, .unset, .unset, .unset, .unset, .unset, .unset, .unset, .unset, .unset, .unset] [])) := by rw [hS0]; exact Steps.refl _
  have r127 : Steps p.tables e below S0 (s₁.setTop (mkF m 3 #[.val (.int p1), .val (.int p2), .val (.int p3), .val (.int p4), .val (.int p5), .unset, .unset, .unset, .unset, .unset, .unset, .unset, .unset, .unset, .unset, .unset, .unset, .unset, .unset, .unset, .unset, .unset, .unset, .unset, .unset, .unset, .unset, .unset, .unset, .unset, .unset, .unset, .unset, .unset, .unset, .unset, .unset, .unset, .unset, .unset, .unset, .unset, .unset, .unset, .unset, .unset, .unset] [(.int (p1 &&& (1 : Int32)))])) := by
    refine r0.trans ?_
    show Steps p.tables e below (s₁.setTop (mkF m 0 #[.val (.int p1), .val (.int p2), .val (.int p3), .val (.int p4), .val (.int p5), .unset, .unset, .unset, .unset, .unset, .unset, .unset, .unset, .unset, .unset, .unset, .unset, .unset, .unset, .unset, .unset, .unset, .unset, .unset, .unset, .unset, .unset, .unset, .unset, .unset, .unset, .unset, .unset, .unset, .unset, .unset, .unset, .unset, .unset, .unset, .unset, .unset, .unset, .unset, .unset, .unset, .unset] [])) _
    refine XS.iloadN X0.here hx rfl (hb hby at_0) rfl ?_
    show Steps p.tables e below (s₁.setTop (mkF m 1 #[.val (.int p1), .val (.int p2), .val (.int p3), .val (.int p4), .val (.int p5), .unset, .unset, .unset, .unset, .unset, .unset, .unset, .unset, .unset, .unset, .unset, .unset, .unset, .unset, .unset, .unset, .unset, .unset, .unset, .unset, .unset, .unset, .unset, .unset, .unset, .unset, .unset, .unset, .unset, .unset, .unset, .unset, .unset, .unset, .unset, .unset, .unset, .unset, .unset, .unset, .unset, .unset] [(.int p1)])) _
    refine XS.iconst X0.here hx rfl (hb hby at_1) ?_
    show Steps p.tables e below (s₁.setTop (mkF m 2 #[.val (.int p1), .val (.int p2), .val (.int p3), .val (.int p4), .val (.int p5), .unset, .unset, .unset, .unset, .unset, .unset, .unset, .unset, .unset, .unset, .unset, .unset, .unset, .unset, .unset, .unset, .unset, .unset, .unset, .unset, .unset, .unset, .unset, .unset, .unset, .unset, .unset, .unset, .unset, .unset, .unset, .unset, .unset, .unset, .unset, .unset, .unset, .unset, .unset, .unset, .unset, .unset] [(.int (1 : Int32)), (.int p1)])) _
    refine XS.iand X0.here hx rfl (hb hby at_2) rfl ?_
    exact Steps.refl _
  have r131 : Steps p.tables e below S0 (s₁.setTop (mkF m 11 #[.val (.int p1), .val (.int p2), .val (.int p3), .val (.int p4), .val (.int p5), .unset, .unset, .unset, .unset, .unset, .unset, .unset, .unset, .unset, .unset, .unset, .unset, .unset, .unset, .unset, .unset, .unset, .unset, .unset, .unset, .unset, .unset, .unset, .unset, .unset, .unset, .unset, .unset, .unset, .unset, .unset, .unset, .unset, .unset, .unset, .unset, .unset, .unset, .unset, .unset, .unset, .unset] [(.int (if (p1 &&& (1 : Int32)) = (0 : Int32) then (0 : Int32) else (1 : Int32)))])) := by
    refine r127.trans ?_
    by_cases hf128 : (p1 &&& (1 : Int32)) = (0 : Int32)
    · skip
      rw [show (if (p1 &&& (1 : Int32)) = (0 : Int32) then (0 : Int32) else (1 : Int32)) = (0 : Int32) from if_pos hf128]
      have q0 : Steps p.tables e below (s₁.setTop (mkF m 3 #[.val (.int p1), .val (.int p2), .val (.int p3), .val (.int p4), .val (.int p5), .unset, .unset, .unset, .unset, .unset, .unset, .unset, .unset, .unset, .unset, .unset, .unset, .unset, .unset, .unset, .unset, .unset, .unset, .unset, .unset, .unset, .unset, .unset, .unset, .unset, .unset, .unset, .unset, .unset, .unset, .unset, .unset, .unset, .unset, .unset, .unset, .unset, .unset, .unset, .unset, .unset, .unset] [(.int (p1 &&& (1 : Int32)))])) (s₁.setTop (mkF m 3 #[.val (.int p1), .val (.int p2), .val (.int p3), .val (.int p4), .val (.int p5), .unset, .unset, .unset, .unset, .unset, .unset, .unset, .unset, .unset, .unset, .unset, .unset, .unset, .unset, .unset, .unset, .unset, .unset, .unset, .unset, .unset, .unset, .unset, .unset, .unset, .unset, .unset, .unset, .unset, .unset, .unset, .unset, .unset, .unset, .unset, .unset, .unset, .unset, .unset, .unset, .unset, .unset] [(.int (p1 &&& (1 : Int32)))])) := Steps.refl _
      have r129 : Steps p.tables e below (s₁.setTop (mkF m 3 #[.val (.int p1), .val (.int p2), .val (.int p3), .val (.int p4), .val (.int p5), .unset, .unset, .unset, .unset, .unset, .unset, .unset, .unset, .unset, .unset, .unset, .unset, .unset, .unset, .unset, .unset, .unset, .unset, .unset, .unset, .unset, .unset, .unset, .unset, .unset, .unset, .unset, .unset, .unset, .unset, .unset, .unset, .unset, .unset, .unset, .unset, .unset, .unset, .unset, .unset, .unset, .unset] [(.int (p1 &&& (1 : Int32)))])) (s₁.setTop (mkF m 11 #[.val (.int p1), .val (.int p2), .val (.int p3), .val (.int p4), .val (.int p5), .unset, .unset, .unset, .unset, .unset, .unset, .unset, .unset, .unset, .unset, .unset, .unset, .unset, .unset, .unset, .unset, .unset, .unset, .unset, .unset, .unset, .unset, .unset, .unset, .unset, .unset, .unset, .unset, .unset, .unset, .unset, .unset, .unset, .unset, .unset, .unset, .unset, .unset, .unset, .unset, .unset, .unset] [(.int (0 : Int32))])) := by
        refine q0.trans ?_
        show Steps p.tables e below (s₁.setTop (mkF m 3 #[.val (.int p1), .val (.int p2), .val (.int p3), .val (.int p4), .val (.int p5), .unset, .unset, .unset, .unset, .unset, .unset, .unset, .unset, .unset, .unset, .unset, .unset, .unset, .unset, .unset, .unset, .unset, .unset, .unset, .unset, .unset, .unset, .unset, .unset, .unset, .unset, .unset, .unset, .unset, .unset, .unset, .unset, .unset, .unset, .unset, .unset, .unset, .unset, .unset, .unset, .unset, .unset] [(.int (p1 &&& (1 : Int32)))])) _
        refine XS.ifYes X0.here hx rfl (pc0 := 3) (pc' := 10) rfl (hb hby at_3) rfl ((if0 _ _).trans (teq hf128).1) (by decide) (by decide) ?_
        show Steps p.tables e below (s₁.setTop (mkF m 10 #[.val (.int p1), .val (.int p2), .val (.int p3), .val (.int p4), .val (.int p5), .unset, .unset, .unset, .unset, .unset, .unset, .unset, .unset, .unset, .unset, .unset, .unset, .unset, .unset, .unset, .unset, .unset, .unset, .unset, .unset, .unset, .unset, .unset, .unset, .unset, .unset, .unset, .unset, .unset, .unset, .unset, .unset, .unset, .unset, .unset, .unset, .unset, .unset, .unset, .unset, .unset, .unset] [])) _
        refine XS.iconst X0.here hx rfl (hb hby at_10) ?_
        exact Steps.refl _
      exact r129
    · skip
      rw [show (if (p1 &&& (1 : Int32)) = (0 : Int32) then (0 : Int32) else (1 : Int32)) = (1 : Int32) from if_neg hf128]
      have q0 : Steps p.tables e below (s₁.setTop (mkF m 3 #[.val (.int p1), .val (.int p2), .val (.int p3), .val (.int p4), .val (.int p5), .unset, .unset, .unset, .unset, .unset, .unset, .unset, .unset, .unset, .unset, .unset, .unset, .unset, .unset, .unset, .unset, .unset, .unset, .unset, .unset, .unset, .unset, .unset, .unset, .unset, .unset, .unset, .unset, .unset, .unset, .unset, .unset, .unset, .unset, .unset, .unset, .unset, .unset, .unset, .unset, .unset, .unset] [(.int (p1 &&& (1 : Int32)))])) (s₁.setTop (mkF m 3 #[.val (.int p1), .val (.int p2), .val (.int p3), .val (.int p4), .val (.int p5), .unset, .unset, .unset, .unset, .unset, .unset, .unset, .unset, .unset, .unset, .unset, .unset, .unset, .unset, .unset, .unset, .unset, .unset, .unset, .unset, .unset, .unset, .unset, .unset, .unset, .unset, .unset, .unset, .unset, .unset, .unset, .unset, .unset, .unset, .unset, .unset, .unset, .unset, .unset, .unset, .unset, .unset] [(.int (p1 &&& (1 : Int32)))])) := Steps.refl _
      have r130 : Steps p.tables e below (s₁.setTop (mkF m 3 #[.val (.int p1), .val (.int p2), .val (.int p3), .val (.int p4), .val (.int p5), .unset, .unset, .unset, .unset, .unset, .unset, .unset, .unset, .unset, .unset, .unset, .unset, .unset, .unset, .unset, .unset, .unset, .unset, .unset, .unset, .unset, .unset, .unset, .unset, .unset, .unset, .unset, .unset, .unset, .unset, .unset, .unset, .unset, .unset, .unset, .unset, .unset, .unset, .unset, .unset, .unset, .unset] [(.int (p1 &&& (1 : Int32)))])) (s₁.setTop (mkF m 11 #[.val (.int p1), .val (.int p2), .val (.int p3), .val (.int p4), .val (.int p5), .unset, .unset, .unset, .unset, .unset, .unset, .unset, .unset, .unset, .unset, .unset, .unset, .unset, .unset, .unset, .unset, .unset, .unset, .unset, .unset, .unset, .unset, .unset, .unset, .unset, .unset, .unset, .unset, .unset, .unset, .unset, .unset, .unset, .unset, .unset, .unset, .unset, .unset, .unset, .unset, .unset, .unset] [(.int (1 : Int32))])) := by
        refine q0.trans ?_
        show Steps p.tables e below (s₁.setTop (mkF m 3 #[.val (.int p1), .val (.int p2), .val (.int p3), .val (.int p4), .val (.int p5), .unset, .unset, .unset, .unset, .unset, .unset, .unset, .unset, .unset, .unset, .unset, .unset, .unset, .unset, .unset, .unset, .unset, .unset, .unset, .unset, .unset, .unset, .unset, .unset, .unset, .unset, .unset, .unset, .unset, .unset, .unset, .unset, .unset, .unset, .unset, .unset, .unset, .unset, .unset, .unset, .unset, .unset] [(.int (p1 &&& (1 : Int32)))])) _
        refine XS.ifNo X0.here hx rfl (hb hby at_3) rfl ((if0 _ _).trans (feq hf128).1) ?_
        show Steps p.tables e below (s₁.setTop (mkF m 6 #[.val (.int p1), .val (.int p2), .val (.int p3), .val (.int p4), .val (.int p5), .unset, .unset, .unset, .unset, .unset, .unset, .unset, .unset, .unset, .unset, .unset, .unset, .unset, .unset, .unset, .unset, .unset, .unset, .unset, .unset, .unset, .unset, .unset, .unset, .unset, .unset, .unset, .unset, .unset, .unset, .unset, .unset, .unset, .unset, .unset, .unset, .unset, .unset, .unset, .unset, .unset, .unset] [])) _
        refine XS.iconst X0.here hx rfl (hb hby at_6) ?_
        show Steps p.tables e below (s₁.setTop (mkF m 7 #[.val (.int p1), .val (.int p2), .val (.int p3), .val (.int p4), .val (.int p5), .unset, .unset, .unset, .unset, .unset, .unset, .unset, .unset, .unset, .unset, .unset, .unset, .unset, .unset, .unset, .unset, .unset, .unset, .unset, .unset, .unset, .unset, .unset, .unset, .unset, .unset, .unset, .unset, .unset, .unset, .unset, .unset, .unset, .unset, .unset, .unset, .unset, .unset, .unset, .unset, .unset, .unset] [(.int (1 : Int32))])) _
        refine XS.goto X0.here hx rfl (pc0 := 7) (pc' := 11) rfl (hb hby at_7) (by decide) (by decide) ?_
        exact Steps.refl _
      exact r130
  have r132 : Steps p.tables e below S0 (s₁.setTop (mkF m 13 #[.val (.int p1), .val (.int p2), .val (.int p3), .val (.int p4), .val (.int p5), .val (.int (if (p1 &&& (1 : Int32)) = (0 : Int32) then (0 : Int32) else (1 : Int32))), .unset, .unset, .unset, .unset, .unset, .unset, .unset, .unset, .unset, .unset, .unset, .unset, .unset, .unset, .unset, .unset, .unset, .unset, .unset, .unset, .unset, .unset, .unset, .unset, .unset, .unset, .unset, .unset, .unset, .unset, .unset, .unset, .unset, .unset, .unset, .unset, .unset, .unset, .unset, .unset, .unset] [])) := by
    refine r131.trans ?_
    show Steps p.tables e below (s₁.setTop (mkF m 11 #[.val (.int p1), .val (.int p2), .val (.int p3), .val (.int p4), .val (.int p5), .unset, .unset, .unset, .unset, .unset, .unset, .unset, .unset, .unset, .unset, .unset, .unset, .unset, .unset, .unset, .unset, .unset, .unset, .unset, .unset, .unset, .unset, .unset, .unset, .unset, .unset, .unset, .unset, .unset, .unset, .unset, .unset, .unset, .unset, .unset, .unset, .unset, .unset, .unset, .unset, .unset, .unset] [(.int (if (p1 &&& (1 : Int32)) = (0 : Int32) then (0 : Int32) else (1 : Int32)))])) _
    refine XS.istore X0.here hx rfl (hb hby at_11) rfl (l' := #[.val (.int p1), .val (.int p2), .val (.int p3), .val (.int p4), .val (.int p5), .val (.int (if (p1 &&& (1 : Int32)) = (0 : Int32) then (0 : Int32) else (1 : Int32))), .unset, .unset, .unset, .unset, .unset, .unset, .unset, .unset, .unset, .unset, .unset, .unset, .unset, .unset, .unset, .unset, .unset, .unset, .unset, .unset, .unset, .unset, .unset, .unset, .unset, .unset, .unset, .unset, .unset, .unset, .unset, .unset, .unset, .unset, .unset, .unset, .unset, .unset, .unset, .unset, .unset]) rfl ?_
    exact Steps.refl _
  obtain ⟨rA, hrA⟩ : ∃ z, z = (if (p1 &&& (1 : Int32)) = (0 : Int32) then (0 : Int32) else (1 : Int32)) := ⟨_, rfl⟩
  have r133 : Steps p.tables e below S0 (s₁.setTop (mkF m 13 #[.val (.int p1), .val (.int p2), .val (.int p3), .val (.int p4), .val (.int p5), .val (.int rA), .unset, .unset, .unset, .unset, .unset, .unset, .unset, .unset, .unset, .unset, .unset, .unset, .unset, .unset, .unset, .unset, .unset, .unset, .unset, .unset, .unset, .unset, .unset, .unset, .unset, .unset, .unset, .unset, .unset, .unset, .unset, .unset, .unset, .unset, .unset, .unset, .unset, .unset, .unset, .unset, .unset] [])) := by rw [hrA]; exact r132
  have r134 : Steps p.tables e below S0 (s₁.setTop (mkF m 16 #[.val (.int p1), .val (.int p2), .val (.int p3), .val (.int p4), .val (.int p5), .val (.int rA), .unset, .unset, .unset, .unset, .unset, .unset, .unset, .unset, .unset, .unset, .unset, .unset, .unset, .unset, .unset, .unset, .unset, .unset, .unset, .unset, .unset, .unset, .unset, .unset, .unset, .unset, .unset, .unset, .unset, .unset, .unset, .unset, .unset, .unset, .unset, .unset, .unset, .unset, .unset, .unset, .unset] [(.int (p1 &&& (2 : Int32)))])) := by
    refine r133.trans ?_
    show Steps p.tables e below (s₁.setTop (mkF m 13 #[.val (.int p1), .val (.int p2), .val (.int p3), .val (.int p4), .val (.int p5), .val (.int rA), .unset, .unset, .unset, .unset, .unset, .unset, .unset, .unset, .unset, .unset, .unset, .unset, .unset, .unset, .unset, .unset, .unset, .unset, .unset, .unset, .unset, .unset, .unset, .unset, .unset, .unset, .unset, .unset, .unset, .unset, .unset, .unset, .unset, .unset, .unset, .unset, .unset, .unset, .unset, .unset, .unset] [])) _
    refine XS.iloadN X0.here hx rfl (hb hby at_13) rfl ?_
    show Steps p.tables e below (s₁.setTop (mkF m 14 #[.val (.int p1), .val (.int p2), .val (.int p3), .val (.int p4), .val (.int p5), .val (.int rA), .unset, .unset, .unset, .unset, .unset, .unset, .unset, .unset, .unset, .unset, .unset, .unset, .unset, .unset, .unset, .unset, .unset, .unset, .unset, .unset, .unset, .unset, .unset, .unset, .unset, .unset, .unset, .unset, .unset, .unset, .unset, .unset, .unset, .unset, .unset, .unset, .unset, .unset, .unset, .unset, .unset] [(.int p1)])) _
    refine XS.iconst X0.here hx rfl (hb hby at_14) ?_
    show Steps p.tables e below (s₁.setTop (mkF m 15 #[.val (.int p1), .val (.int p2), .val (.int p3), .val (.int p4), .val (.int p5), .val (.int rA), .unset, .unset, .unset, .unset, .unset, .unset, .unset, .unset, .unset, .unset, .unset, .unset, .unset, .unset, .unset, .unset, .unset, .unset, .unset, .unset, .unset, .unset, .unset, .unset, .unset, .unset, .unset, .unset, .unset, .unset, .unset, .unset, .unset, .unset, .unset, .unset, .unset, .unset, .unset, .unset, .unset] [(.int (2 : Int32)), (.int p1)])) _
    refine XS.iand X0.here hx rfl (hb hby at_15) rfl ?_
    exact Steps.refl _
  have r138 : Steps p.tables e below S0 (s₁.setTop (mkF m 24 #[.val (.int p1), .val (.int p2), .val (.int p3), .val (.int p4), .val (.int p5), .val (.int rA), .unset, .unset, .unset, .unset, .unset, .unset, .unset, .unset, .unset, .unset, .unset, .unset, .unset, .unset, .unset, .unset, .unset, .unset, .unset, .unset, .unset, .unset, .unset, .unset, .unset, .unset, .unset, .unset, .unset, .unset, .unset, .unset, .unset, .unset, .unset, .unset, .unset, .unset, .unset, .unset, .unset] [(.int (if (p1 &&& (2 : Int32)) = (0 : Int32) then (0 : Int32) else (1 : Int32)))])) := by
    refine r134.trans ?_
    by_cases hf135 : (p1 &&& (2 : Int32)) = (0 : Int32)
    · skip
      rw [show (if (p1 &&& (2 : Int32)) = (0 : Int32) then (0 : Int32) else (1 : Int32)) = (0 : Int32) from if_pos hf135]
      have q0 : Steps p.tables e below (s₁.setTop (mkF m 16 #[.val (.int p1), .val (.int p2), .val (.int p3), .val (.int p4), .val (.int p5), .val (.int rA), .unset, .unset, .unset, .unset, .unset, .unset, .unset, .unset, .unset, .unset, .unset, .unset, .unset, .unset, .unset, .unset, .unset, .unset, .unset, .unset, .unset, .unset, .unset, .unset, .unset, .unset, .unset, .unset, .unset, .unset, .unset, .unset, .unset, .unset, .unset, .unset, .unset, .unset, .unset, .unset, .unset] [(.int (p1 &&& (2 : Int32)))])) (s₁.setTop (mkF m 16 #[.val (.int p1), .val (.int p2), .val (.int p3), .val (.int p4), .val (.int p5), .val (.int rA), .unset, .unset, .unset, .unset, .unset, .unset, .unset, .unset, .unset, .unset, .unset, .unset, .unset, .unset, .unset, .unset, .unset, .unset, .unset, .unset, .unset, .unset, .unset, .unset, .unset, .unset, .unset, .unset, .unset, .unset, .unset, .unset, .unset, .unset, .unset, .unset, .unset, .unset, .unset, .unset, .unset] [(.int (p1 &&& (2 : Int32)))])) := Steps.refl _
      have r136 : Steps p.tables e below (s₁.setTop (mkF m 16 #[.val (.int p1), .val (.int p2), .val (.int p3), .val (.int p4), .val (.int p5), .val (.int rA), .unset, .unset, .unset, .unset, .unset, .unset, .unset, .unset, .unset, .unset, .unset, .unset, .unset, .unset, .unset, .unset, .unset, .unset, .unset, .unset, .unset, .unset, .unset, .unset, .unset, .unset, .unset, .unset, .unset, .unset, .unset, .unset, .unset, .unset, .unset, .unset, .unset, .unset, .unset, .unset, .unset] [(.int (p1 &&& (2 : Int32)))])) (s₁.setTop (mkF m 24 #[.val (.int p1), .val (.int p2), .val (.int p3), .val (.int p4), .val (.int p5), .val (.int rA), .unset, .unset, .unset, .unset, .unset, .unset, .unset, .unset, .unset, .unset, .unset, .unset, .unset, .unset, .unset, .unset, .unset, .unset, .unset, .unset, .unset, .unset, .unset, .unset, .unset, .unset, .unset, .unset, .unset, .unset, .unset, .unset, .unset, .unset, .unset, .unset, .unset, .unset, .unset, .unset, .unset] [(.int (0 : Int32))])) := by
        refine q0.trans ?_
        show Steps p.tables e below (s₁.setTop (mkF m 16 #[.val (.int p1), .val (.int p2), .val (.int p3), .val (.int p4), .val (.int p5), .val (.int rA), .unset, .unset, .unset, .unset, .unset, .unset, .unset, .unset, .unset, .unset, .unset, .unset, .unset, .unset, .unset, .unset, .unset, .unset, .unset, .unset, .unset, .unset, .unset, .unset, .unset, .unset, .unset, .unset, .unset, .unset, .unset, .unset, .unset, .unset, .unset, .unset, .unset, .unset, .unset, .unset, .unset] [(.int (p1 &&& (2 : Int32)))])) _
        refine XS.ifYes X0.here hx rfl (pc0 := 16) (pc' := 23) rfl (hb hby at_16) rfl ((if0 _ _).trans (teq hf135).1) (by decide) (by decide) ?_
        show Steps p.tables e below (s₁.setTop (mkF m 23 #[.val (.int p1), .val (.int p2), .val (.int p3), .val (.int p4), .val (.int p5), .val (.int rA), .unset, .unset, .unset, .unset, .unset, .unset, .unset, .unset, .unset, .unset, .unset, .unset, .unset, .unset, .unset, .unset, .unset, .unset, .unset, .unset, .unset, .unset, .unset, .unset, .unset, .unset, .unset, .unset, .unset, .unset, .unset, .unset, .unset, .unset, .unset, .unset, .unset, .unset, .unset, .unset, .unset] [])) _
        refine XS.iconst X0.here hx rfl (hb hby at_23) ?_
        exact Steps.refl _
      exact r136
    · skip
      rw [show (if (p1 &&& (2 : Int32)) = (0 : Int32) then (0 : Int32) else (1 : Int32)) = (1 : Int32) from if_neg hf135]
      have q0 : Steps p.tables e below (s₁.setTop (mkF m 16 #[.val (.int p1), .val (.int p2), .val (.int p3), .val (.int p4), .val (.int p5), .val (.int rA), .unset, .unset, .unset, .unset, .unset, .unset, .unset, .unset, .unset, .unset, .unset, .unset, .unset, .unset, .unset, .unset, .unset, .unset, .unset, .unset, .unset, .unset, .unset, .unset, .unset, .unset, .unset, .unset, .unset, .unset, .unset, .unset, .unset, .unset, .unset, .unset, .unset, .unset, .unset, .unset, .unset] [(.int (p1 &&& (2 : Int32)))])) (s₁.setTop (mkF m 16 #[.val (.int p1), .val (.int p2), .val (.int p3), .val (.int p4), .val (.int p5), .val (.int rA), .unset, .unset, .unset, .unset, .unset, .unset, .unset, .unset, .unset, .unset, .unset, .unset, .unset, .unset, .unset, .unset, .unset, .unset, .unset, .unset, .unset, .unset, .unset, .unset, .unset, .unset, .unset, .unset, .unset, .unset, .unset, .unset, .unset, .unset, .unset, .unset, .unset, .unset, .unset, .unset, .unset] [(.int (p1 &&& (2 : Int32)))])) := Steps.refl _
      have r137 : Steps p.tables e below (s₁.setTop (mkF m 16 #[.val (.int p1), .val (.int p2), .val (.int p3), .val (.int p4), .val (.int p5), .val (.int rA), .unset, .unset, .unset, .unset, .unset, .unset, .unset, .unset, .unset, .unset, .unset, .unset, .unset, .unset, .unset, .unset, .unset, .unset, .unset, .unset, .unset, .unset, .unset, .unset, .unset, .unset, .unset, .unset, .unset, .unset, .unset, .unset, .unset, .unset, .unset, .unset, .unset, .unset, .unset, .unset, .unset] [(.int (p1 &&& (2 : Int32)))])) (s₁.setTop (mkF m 24 #[.val (.int p1), .val (.int p2), .val (.int p3), .val (.int p4), .val (.int p5), .val (.int rA), .unset, .unset, .unset, .unset, .unset, .unset, .unset, .unset, .unset, .unset, .unset, .unset, .unset, .unset, .unset, .unset, .unset, .unset, .unset, .unset, .unset, .unset, .unset, .unset, .unset, .unset, .unset, .unset, .unset, .unset, .unset, .unset, .unset, .unset, .unset, .unset, .unset, .unset, .unset, .unset, .unset] [(.int (1 : Int32))])) := by
        refine q0.trans ?_
        show Steps p.tables e below (s₁.setTop (mkF m 16 #[.val (.int p1), .val (.int p2), .val (.int p3), .val (.int p4), .val (.int p5), .val (.int rA), .unset, .unset, .unset, .unset, .unset, .unset, .unset, .unset, .unset, .unset, .unset, .unset, .unset, .unset, .unset, .unset, .unset, .unset, .unset, .unset, .unset, .unset, .unset, .unset, .unset, .unset, .unset, .unset, .unset, .unset, .unset, .unset, .unset, .unset, .unset, .unset, .unset, .unset, .unset, .unset, .unset] [(.int (p1 &&& (2 : Int32)))])) _
        refine XS.ifNo X0.here hx rfl (hb hby at_16) rfl ((if0 _ _).trans (feq hf135).1) ?_
        show Steps p.tables e below (s₁.setTop (mkF m 19 #[.val (.int p1), .val (.int p2), .val (.int p3), .val (.int p4), .val (.int p5), .val (.int rA), .unset, .unset, .unset, .unset, .unset, .unset, .unset, .unset, .unset, .unset, .unset, .unset, .unset, .unset, .unset, .unset, .unset, .unset, .unset, .unset, .unset, .unset, .unset, .unset, .unset, .unset, .unset, .unset, .unset, .unset, .unset, .unset, .unset, .unset, .unset, .unset, .unset, .unset, .unset, .unset, .unset] [])) _
        refine XS.iconst X0.here hx rfl (hb hby at_19) ?_
        show Steps p.tables e below (s₁.setTop (mkF m 20 #[.val (.int p1), .val (.int p2), .val (.int p3), .val (.int p4), .val (.int p5), .val (.int rA), .unset, .unset, .unset, .unset, .unset, .unset, .unset, .unset, .unset, .unset, .unset, .unset, .unset, .unset, .unset, .unset, .unset, .unset, .unset, .unset, .unset, .unset, .unset, .unset, .unset, .unset, .unset, .unset, .unset, .unset, .unset, .unset, .unset, .unset, .unset, .unset, .unset, .unset, .unset, .unset, .unset] [(.int (1 : Int32))])) _
        refine XS.goto X0.here hx rfl (pc0 := 20) (pc' := 24) rfl (hb hby at_20) (by decide) (by decide) ?_
        exact Steps.refl _
      exact r137
  have r139 : Steps p.tables e below S0 (s₁.setTop (mkF m 26 #[.val (.int p1), .val (.int p2), .val (.int p3), .val (.int p4), .val (.int p5), .val (.int rA), .val (.int (if (p1 &&& (2 : Int32)) = (0 : Int32) then (0 : Int32) else (1 : Int32))), .unset, .unset, .unset, .unset, .unset, .unset, .unset, .unset, .unset, .unset, .unset, .unset, .unset, .unset, .unset, .unset, .unset, .unset, .unset, .unset, .unset, .unset, .unset, .unset, .unset, .unset, .unset, .unset, .unset, .unset, .unset, .unset, .unset, .unset, .unset, .unset, .unset, .unset, .unset, .unset] [])) := by
    refine r138.trans ?_
    show Steps p.tables e below (s₁.setTop (mkF m 24 #[.val (.int p1), .val (.int p2), .val (.int p3), .val (.int p4), .val (.int p5), .val (.int rA), .unset, .unset, .unset, .unset, .unset, .unset, .unset, .unset, .unset, .unset, .unset, .unset, .unset, .unset, .unset, .unset, .unset, .unset, .unset, .unset, .unset, .unset, .unset, .unset, .unset, .unset, .unset, .unset, .unset, .unset, .unset, .unset, .unset, .unset, .unset, .unset, .unset, .unset, .unset, .unset, .unset] [(.int (if (p1 &&& (2 : Int32)) = (0 : Int32) then (0 : Int32) else (1 : Int32)))])) _
    refine XS.istore X0.here hx rfl (hb hby at_24) rfl (l' := #[.val (.int p1), .val (.int p2), .val (.int p3), .val (.int p4), .val (.int p5), .val (.int rA), .val (.int (if (p1 &&& (2 : Int32)) = (0 : Int32) then (0 : Int32) else (1 : Int32))), .unset, .unset, .unset, .unset, .unset, .unset, .unset, .unset, .unset, .unset, .unset, .unset, .unset, .unset, .unset, .unset, .unset, .unset, .unset, .unset, .unset, .unset, .unset, .unset, .unset, .unset, .unset, .unset, .unset, .unset, .unset, .unset, .unset, .unset, .unset, .unset, .unset, .unset, .unset, .unset]) rfl ?_
    exact Steps.refl _
  obtain ⟨rB, hrB⟩ : ∃ z, z = (if (p1 &&& (2 : Int32)) = (0 : Int32) then (0 : Int32) else (1 : Int32)) := ⟨_, rfl⟩
  have r140 : Steps p.tables e below S0 (s₁.setTop (mkF m 26 #[.val (.int p1), .val (.int p2), .val (.int p3), .val (.int p4), .val (.int p5), .val (.int rA), .val (.int rB), .unset, .unset, .unset, .unset, .unset, .unset, .unset, .unset, .unset, .unset, .unset, .unset, .unset, .unset, .unset, .unset, .unset, .unset, .unset, .unset, .unset, .unset, .unset, .unset, .unset, .unset, .unset, .unset, .unset, .unset, .unset, .unset, .unset, .unset, .unset, .unset, .unset, .unset, .unset, .unset] [])) := by rw [hrB]; exact r139
  have r141 : Steps p.tables e below S0 (s₁.setTop (mkF m 29 #[.val (.int p1), .val (.int p2), .val (.int p3), .val (.int p4), .val (.int p5), .val (.int rA), .val (.int rB), .unset, .unset, .unset, .unset, .unset, .unset, .unset, .unset, .unset, .unset, .unset, .unset, .unset, .unset, .unset, .unset, .unset, .unset, .unset, .unset, .unset, .unset, .unset, .unset, .unset, .unset, .unset, .unset, .unset, .unset, .unset, .unset, .unset, .unset, .unset, .unset, .unset, .unset, .unset, .unset] [(.int (p1 &&& (4 : Int32)))])) := by
    refine r140.trans ?_
    show Steps p.tables e below (s₁.setTop (mkF m 26 #[.val (.int p1), .val (.int p2), .val (.int p3), .val (.int p4), .val (.int p5), .val (.int rA), .val (.int rB), .unset, .unset, .unset, .unset, .unset, .unset, .unset, .unset, .unset, .unset, .unset, .unset, .unset, .unset, .unset, .unset, .unset, .unset, .unset, .unset, .unset, .unset, .unset, .unset, .unset, .unset, .unset, .unset, .unset, .unset, .unset, .unset, .unset, .unset, .unset, .unset, .unset, .unset, .unset, .unset] [])) _
    refine XS.iloadN X0.here hx rfl (hb hby at_26) rfl ?_
    show Steps p.tables e below (s₁.setTop (mkF m 27 #[.val (.int p1), .val (.int p2), .val (.int p3), .val (.int p4), .val (.int p5), .val (.int rA), .val (.int rB), .unset, .unset, .unset, .unset, .unset, .unset, .unset, .unset, .unset, .unset, .unset, .unset, .unset, .unset, .unset, .unset, .unset, .unset, .unset, .unset, .unset, .unset, .unset, .unset, .unset, .unset, .unset, .unset, .unset, .unset, .unset, .unset, .unset, .unset, .unset, .unset, .unset, .unset, .unset, .unset] [(.int p1)])) _
    refine XS.iconst X0.here hx rfl (hb hby at_27) ?_
    show Steps p.tables e below (s₁.setTop (mkF m 28 #[.val (.int p1), .val (.int p2), .val (.int p3), .val (.int p4), .val (.int p5), .val (.int rA), .val (.int rB), .unset, .unset, .unset, .unset, .unset, .unset, .unset, .unset, .unset, .unset, .unset, .unset, .unset, .unset, .unset, .unset, .unset, .unset, .unset, .unset, .unset, .unset, .unset, .unset, .unset, .unset, .unset, .unset, .unset, .unset, .unset, .unset, .unset, .unset, .unset, .unset, .unset, .unset, .unset, .unset] [(.int (4 : Int32)), (.int p1)])) _
    refine XS.iand X0.here hx rfl (hb hby at_28) rfl ?_
    exact Steps.refl _
  have r145 : Steps p.tables e below S0 (s₁.setTop (mkF m 37 #[.val (.int p1), .val (.int p2), .val (.int p3), .val (.int p4), .val (.int p5), .val (.int rA), .val (.int rB), .unset, .unset, .unset, .unset, .unset, .unset, .unset, .unset, .unset, .unset, .unset, .unset, .unset, .unset, .unset, .unset, .unset, .unset, .unset, .unset, .unset, .unset, .unset, .unset, .unset, .unset, .unset, .unset, .unset, .unset, .unset, .unset, .unset, .unset, .unset, .unset, .unset, .unset, .unset, .unset] [(.int (if (p1 &&& (4 : Int32)) = (0 : Int32) then (0 : Int32) else (1 : Int32)))])) := by
    refine r141.trans ?_
    by_cases hf142 : (p1 &&& (4 : Int32)) = (0 : Int32)
    · skip
      rw [show (if (p1 &&& (4 : Int32)) = (0 : Int32) then (0 : Int32) else (1 : Int32)) = (0 : Int32) from if_pos hf142]
      have q0 : Steps p.tables e below (s₁.setTop (mkF m 29 #[.val (.int p1), .val (.int p2), .val (.int p3), .val (.int p4), .val (.int p5), .val (.int rA), .val (.int rB), .unset, .unset, .unset, .unset, .unset, .unset, .unset, .unset, .unset, .unset, .unset, .unset, .unset, .unset, .unset, .unset, .unset, .unset, .unset, .unset, .unset, .unset, .unset, .unset, .unset, .unset, .unset, .unset, .unset, .unset, .unset, .unset, .unset, .unset, .unset, .unset, .unset, .unset, .unset, .unset] [(.int (p1 &&& (4 : Int32)))])) (s₁.setTop (mkF m 29 #[.val (.int p1), .val (.int p2), .val (.int p3), .val (.int p4), .val (.int p5), .val (.int rA), .val (.int rB), .unset, .unset, .unset, .unset, .unset, .unset, .unset, .unset, .unset, .unset, .unset, .unset, .unset, .unset, .unset, .unset, .unset, .unset, .unset, .unset, .unset, .unset, .unset, .unset, .unset, .unset, .unset, .unset, .unset, .unset, .unset, .unset, .unset, .unset, .unset, .unset, .unset, .unset, .unset, .unset] [(.int (p1 &&& (4 : Int32)))])) := Steps.refl _
      have r143 : Steps p.tables e below (s₁.setTop (mkF m 29 #[.val (.int p1), .val (.int p2), .val (.int p3), .val (.int p4), .val (.int p5), .val (.int rA), .val (.int rB), .unset, .unset, .unset, .unset, .unset, .unset, .unset, .unset, .unset, .unset, .unset, .unset, .unset, .unset, .unset, .unset, .unset, .unset, .unset, .unset, .unset, .unset, .unset, .unset, .unset, .unset, .unset, .unset, .unset, .unset, .unset, .unset, .unset, .unset, .unset, .unset, .unset, .unset, .unset, .unset] [(.int (p1 &&& (4 : Int32)))])) (s₁.setTop (mkF m 37 #[.val (.int p1), .val (.int p2), .val (.int p3), .val (.int p4), .val (.int p5), .val (.int rA), .val (.int rB), .unset, .unset, .unset, .unset, .unset, .unset, .unset, .unset, .unset, .unset, .unset, .unset, .unset, .unset, .unset, .unset, .unset, .unset, .unset, .unset, .unset, .unset, .unset, .unset, .unset, .unset, .unset, .unset, .unset, .unset, .unset, .unset, .unset, .unset, .unset, .unset, .unset, .unset, .unset, .unset] [(.int (0 : Int32))])) := by
        refine q0.trans ?_
        show Steps p.tables e below (s₁.setTop (mkF m 29 #[.val (.int p1), .val (.int p2), .val (.int p3), .val (.int p4), .val (.int p5), .val (.int rA), .val (.int rB), .unset, .unset, .unset, .unset, .unset, .unset, .unset, .unset, .unset, .unset, .unset, .unset, .unset, .unset, .unset, .unset, .unset, .unset, .unset, .unset, .unset, .unset, .unset, .unset, .unset, .unset, .unset, .unset, .unset, .unset, .unset, .unset, .unset, .unset, .unset, .unset, .unset, .unset, .unset, .unset] [(.int (p1 &&& (4 : Int32)))])) _
        refine XS.ifYes X0.here hx rfl (pc0 := 29) (pc' := 36) rfl (hb hby at_29) rfl ((if0 _ _).trans (teq hf142).1) (by decide) (by decide) ?_
        show Steps p.tables e below (s₁.setTop (mkF m 36 #[.val (.int p1), .val (.int p2), .val (.int p3), .val (.int p4), .val (.int p5), .val (.int rA), .val (.int rB), .unset, .unset, .unset, .unset, .unset, .unset, .unset, .unset, .unset, .unset, .unset, .unset, .unset, .unset, .unset, .unset, .unset, .unset, .unset, .unset, .unset, .unset, .unset, .unset, .unset, .unset, .unset, .unset, .unset, .unset, .unset, .unset, .unset, .unset, .unset, .unset, .unset, .unset, .unset, .unset] [])) _
        refine XS.iconst X0.here hx rfl (hb hby at_36) ?_
        exact Steps.refl _
      exact r143
    · skip
      rw [show (if (p1 &&& (4 : Int32)) = (0 : Int32) then (0 : Int32) else (1 : Int32)) = (1 : Int32) from if_neg hf142]
      have q0 : Steps p.tables e below (s₁.setTop (mkF m 29 #[.val (.int p1), .val (.int p2), .val (.int p3), .val (.int p4), .val (.int p5), .val (.int rA), .val (.int rB), .unset, .unset, .unset, .unset, .unset, .unset, .unset, .unset, .unset, .unset, .unset, .unset, .unset, .unset, .unset, .unset, .unset, .unset, .unset, .unset, .unset, .unset, .unset, .unset, .unset, .unset, .unset, .unset, .unset, .unset, .unset, .unset, .unset, .unset, .unset, .unset, .unset, .unset, .unset, .unset] [(.int (p1 &&& (4 : Int32)))])) (s₁.setTop (mkF m 29 #[.val (.int p1), .val (.int p2), .val (.int p3), .val (.int p4), .val (.int p5), .val (.int rA), .val (.int rB), .unset, .unset, .unset, .unset, .unset, .unset, .unset, .unset, .unset, .unset, .unset, .unset, .unset, .unset, .unset, .unset, .unset, .unset, .unset, .unset, .unset, .unset, .unset, .unset, .unset, .unset, .unset, .unset, .unset, .unset, .unset, .unset, .unset, .unset, .unset, .unset, .unset, .unset, .unset, .unset] [(.int (p1 &&& (4 : Int32)))])) := Steps.refl _
      have r144 : Steps p.tables e below (s₁.setTop (mkF m 29 #[.val (.int p1), .val (.int p2), .val (.int p3), .val (.int p4), .val (.int p5), .val (.int rA), .val (.int rB), .unset, .unset, .unset, .unset, .unset, .unset, .unset, .unset, .unset, .unset, .unset, .unset, .unset, .unset, .unset, .unset, .unset, .unset, .unset, .unset, .unset, .unset, .unset, .unset, .unset, .unset, .unset, .unset, .unset, .unset, .unset, .unset, .unset, .unset, .unset, .unset, .unset, .unset, .unset, .unset] [(.int (p1 &&& (4 : Int32)))])) (s₁.setTop (mkF m 37 #[.val (.int p1), .val (.int p2), .val (.int p3), .val (.int p4), .val (.int p5), .val (.int rA), .val (.int rB), .unset, .unset, .unset, .unset, .unset, .unset, .unset, .unset, .unset, .unset, .unset, .unset, .unset, .unset, .unset, .unset, .unset, .unset, .unset, .unset, .unset, .unset, .unset, .unset, .unset, .unset, .unset, .unset, .unset, .unset, .unset, .unset, .unset, .unset, .unset, .unset, .unset, .unset, .unset, .unset] [(.int (1 : Int32))])) := by
        refine q0.trans ?_
        show Steps p.tables e below (s₁.setTop (mkF m 29 #[.val (.int p1), .val (.int p2), .val (.int p3), .val (.int p4), .val (.int p5), .val (.int rA), .val (.int rB), .unset, .unset, .unset, .unset, .unset, .unset, .unset, .unset, .unset, .unset, .unset, .unset, .unset, .unset, .unset, .unset, .unset, .unset, .unset, .unset, .unset, .unset, .unset, .unset, .unset, .unset, .unset, .unset, .unset, .unset, .unset, .unset, .unset, .unset, .unset, .unset, .unset, .unset, .unset, .unset] [(.int (p1 &&& (4 : Int32)))])) _
        refine XS.ifNo X0.here hx rfl (hb hby at_29) rfl ((if0 _ _).trans (feq hf142).1) ?_
        show Steps p.tables e below (s₁.setTop (mkF m 32 #[.val (.int p1), .val (.int p2), .val (.int p3), .val (.int p4), .val (.int p5), .val (.int rA), .val (.int rB), .unset, .unset, .unset, .unset, .unset, .unset, .unset, .unset, .unset, .unset, .unset, .unset, .unset, .unset, .unset, .unset, .unset, .unset, .unset, .unset, .unset, .unset, .unset, .unset, .unset, .unset, .unset, .unset, .unset, .unset, .unset, .unset, .unset, .unset, .unset, .unset, .unset, .unset, .unset, .unset] [])) _
        refine XS.iconst X0.here hx rfl (hb hby at_32) ?_
        show Steps p.tables e below (s₁.setTop (mkF m 33 #[.val (.int p1), .val (.int p2), .val (.int p3), .val (.int p4), .val (.int p5), .val (.int rA), .val (.int rB), .unset, .unset, .unset, .unset, .unset, .unset, .unset, .unset, .unset, .unset, .unset, .unset, .unset, .unset, .unset, .unset, .unset, .unset, .unset, .unset, .unset, .unset, .unset, .unset, .unset, .unset, .unset, .unset, .unset, .unset, .unset, .unset, .unset, .unset, .unset, .unset, .unset, .unset, .unset, .unset] [(.int (1 : Int32))])) _
        refine XS.goto X0.here hx rfl (pc0 := 33) (pc' := 37) rfl (hb hby at_33) (by decide) (by decide) ?_
        exact Steps.refl _
      exact r144
  have r146 : Steps p.tables e below S0 (s₁.setTop (mkF m 39 #[.val (.int p1), .val (.int p2), .val (.int p3), .val (.int p4), .val (.int p5), .val (.int rA), .val (.int rB), .val (.int (if (p1 &&& (4 : Int32)) = (0 : Int32) then (0 : Int32) else (1 : Int32))), .unset, .unset, .unset, .unset, .unset, .unset, .unset, .unset, .unset, .unset, .unset, .unset, .unset, .unset, .unset, .unset, .unset, .unset, .unset, .unset, .unset, .unset, .unset, .unset, .unset, .unset, .unset, .unset, .unset, .unset, .unset, .unset, .unset, .unset, .unset, .unset, .unset, .unset, .unset] [])) := by
    refine r145.trans ?_
    show Steps p.tables e below (s₁.setTop (mkF m 37 #[.val (.int p1), .val (.int p2), .val (.int p3), .val (.int p4), .val (.int p5), .val (.int rA), .val (.int rB), .unset, .unset, .unset, .unset, .unset, .unset, .unset, .unset, .unset, .unset, .unset, .unset, .unset, .unset, .unset, .unset, .unset, .unset, .unset, .unset, .unset, .unset, .unset, .unset, .unset, .unset, .unset, .unset, .unset, .unset, .unset, .unset, .unset, .unset, .unset, .unset, .unset, .unset, .unset, .unset] [(.int (if (p1 &&& (4 : Int32)) = (0 : Int32) then (0 : Int32) else (1 : Int32)))])) _
    refine XS.istore X0.here hx rfl (hb hby at_37) rfl (l' := #[.val (.int p1), .val (.int p2), .val (.int p3), .val (.int p4), .val (.int p5), .val (.int rA), .val (.int rB), .val (.int (if (p1 &&& (4 : Int32)) = (0 : Int32) then (0 : Int32) else (1 : Int32))), .unset, .unset, .unset, .unset, .unset, .unset, .unset, .unset, .unset, .unset, .unset, .unset, .unset, .unset, .unset, .unset, .unset, .unset, .unset, .unset, .unset, .unset, .unset, .unset, .unset, .unset, .unset, .unset, .unset, .unset, .unset, .unset, .unset, .unset, .unset, .unset, .unset, .unset, .unset]) rfl ?_
    exact Steps.refl _
  obtain ⟨rC, hrC⟩ : ∃ z, z = (if (p1 &&& (4 : Int32)) = (0 : Int32) then (0 : Int32) else (1 : Int32)) := ⟨_, rfl⟩
  have r147 : Steps p.tables e below S0 (s₁.setTop (mkF m 39 #[.val (.int p1), .val (.int p2), .val (.int p3), .val (.int p4), .val (.int p5), .val (.int rA), .val (.int rB), .val (.int rC), .unset, .unset, .unset, .unset, .unset, .unset, .unset, .unset, .unset, .unset, .unset, .unset, .unset, .unset, .unset, .unset, .unset, .unset, .unset, .unset, .unset, .unset, .unset, .unset, .unset, .unset, .unset, .unset, .unset, .unset, .unset, .unset, .unset, .unset, .unset, .unset, .unset, .unset, .unset] [])) := by rw [hrC]; exact r146
  have r148 : Steps p.tables e below S0 (s₁.setTop (mkF m 43 #[.val (.int p1), .val (.int p2), .val (.int p3), .val (.int p4), .val (.int p5), .val (.int rA), .val (.int rB), .val (.int rC), .unset, .unset, .unset, .unset, .unset, .unset, .unset, .unset, .unset, .unset, .unset, .unset, .unset, .unset, .unset, .unset, .unset, .unset, .unset, .unset, .unset, .unset, .unset, .unset, .unset, .unset, .unset, .unset, .unset, .unset, .unset, .unset, .unset, .unset, .unset, .unset, .unset, .unset, .unset] [(.int (p1 &&& (8 : Int32)))])) := by
    refine r147.trans ?_
    show Steps p.tables e below (s₁.setTop (mkF m 39 #[.val (.int p1), .val (.int p2), .val (.int p3), .val (.int p4), .val (.int p5), .val (.int rA), .val (.int rB), .val (.int rC), .unset, .unset, .unset, .unset, .unset, .unset, .unset, .unset, .unset, .unset, .unset, .unset, .unset, .unset, .unset, .unset, .unset, .unset, .unset, .unset, .unset, .unset, .unset, .unset, .unset, .unset, .unset, .unset, .unset, .unset, .unset, .unset, .unset, .unset, .unset, .unset, .unset, .unset, .unset] [])) _
    refine XS.iloadN X0.here hx rfl (hb hby at_39) rfl ?_
    show Steps p.tables e below (s₁.setTop (mkF m 40 #[.val (.int p1), .val (.int p2), .val (.int p3), .val (.int p4), .val (.int p5), .val (.int rA), .val (.int rB), .val (.int rC), .unset, .unset, .unset, .unset, .unset, .unset, .unset, .unset, .unset, .unset, .unset, .unset, .unset, .unset, .unset, .unset, .unset, .unset, .unset, .unset, .unset, .unset, .unset, .unset, .unset, .unset, .unset, .unset, .unset, .unset, .unset, .unset, .unset, .unset, .unset, .unset, .unset, .unset, .unset] [(.int p1)])) _
    refine XS.bipush X0.here hx rfl (hb hby at_40) ?_
    show Steps p.tables e below (s₁.setTop (mkF m 42 #[.val (.int p1), .val (.int p2), .val (.int p3), .val (.int p4), .val (.int p5), .val (.int rA), .val (.int rB), .val (.int rC), .unset, .unset, .unset, .unset, .unset, .unset, .unset, .unset, .unset, .unset, .unset, .unset, .unset, .unset, .unset, .unset, .unset, .unset, .unset, .unset, .unset, .unset, .unset, .unset, .unset, .unset, .unset, .unset, .unset, .unset, .unset, .unset, .unset, .unset, .unset, .unset, .unset, .unset, .unset] [(.int (8 : Int32)), (.int p1)])) _
    refine XS.iand X0.here hx rfl (hb hby at_42) rfl ?_
    exact Steps.refl _
  have r152 : Steps p.tables e below S0 (s₁.setTop (mkF m 51 #[.val (.int p1), .val (.int p2), .val (.int p3), .val (.int p4), .val (.int p5), .val (.int rA), .val (.int rB), .val (.int rC), .unset, .unset, .unset, .unset, .unset, .unset, .unset, .unset, .unset, .unset, .unset, .unset, .unset, .unset, .unset, .unset, .unset, .unset, .unset, .unset, .unset, .unset, .unset, .unset, .unset, .unset, .unset, .unset, .unset, .unset, .unset, .unset, .unset, .unset, .unset, .unset, .unset, .unset, .unset] [(.int (if (p1 &&& (8 : Int32)) = (0 : Int32) then (0 : Int32) else (1 : Int32)))])) := by
    refine r148.trans ?_
    by_cases hf149 : (p1 &&& (8 : Int32)) = (0 : Int32)
    · skip
      rw [show (if (p1 &&& (8 : Int32)) = (0 : Int32) then (0 : Int32) else (1 : Int32)) = (0 : Int32) from if_pos hf149]
      have q0 : Steps p.tables e below (s₁.setTop (mkF m 43 #[.val (.int p1), .val (.int p2), .val (.int p3), .val (.int p4), .val (.int p5), .val (.int rA), .val (.int rB), .val (.int rC), .unset, .unset, .unset, .unset, .unset, .unset, .unset, .unset, .unset, .unset, .unset, .unset, .unset, .unset, .unset, .unset, .unset, .unset, .unset, .unset, .unset, .unset, .unset, .unset, .unset, .unset, .unset, .unset, .unset, .unset, .unset, .unset, .unset, .unset, .unset, .unset, .unset, .unset, .unset] [(.int (p1 &&& (8 : Int32)))])) (s₁.setTop (mkF m 43 #[.val (.int p1), .val (.int p2), .val (.int p3), .val (.int p4), .val (.int p5), .val (.int rA), .val (.int rB), .val (.int rC), .unset, .unset, .unset, .unset, .unset, .unset, .unset, .unset, .unset, .unset, .unset, .unset, .unset, .unset, .unset, .unset, .unset, .unset, .unset, .unset, .unset, .unset, .unset, .unset, .unset, .unset, .unset, .unset, .unset, .unset, .unset, .unset, .unset, .unset, .unset, .unset, .unset, .unset, .unset] [(.int (p1 &&& (8 : Int32)))])) := Steps.refl _
      have r150 : Steps p.tables e below (s₁.setTop (mkF m 43 #[.val (.int p1), .val (.int p2), .val (.int p3), .val (.int p4), .val (.int p5), .val (.int rA), .val (.int rB), .val (.int rC), .unset, .unset, .unset, .unset, .unset, .unset, .unset, .unset, .unset, .unset, .unset, .unset, .unset, .unset, .unset, .unset, .unset, .unset, .unset, .unset, .unset, .unset, .unset, .unset, .unset, .unset, .unset, .unset, .unset, .unset, .unset, .unset, .unset, .unset, .unset, .unset, .unset, .unset, .unset] [(.int (p1 &&& (8 : Int32)))])) (s₁.setTop (mkF m 51 #[.val (.int p1), .val (.int p2), .val (.int p3), .val (.int p4), .val (.int p5), .val (.int rA), .val (.int rB), .val (.int rC), .unset, .unset, .unset, .unset, .unset, .unset, .unset, .unset, .unset, .unset, .unset, .unset, .unset, .unset, .unset, .unset, .unset, .unset, .unset, .unset, .unset, .unset, .unset, .unset, .unset, .unset, .unset, .unset, .unset, .unset, .unset, .unset, .unset, .unset, .unset, .unset, .unset, .unset, .unset] [(.int (0 : Int32))])) := by
        refine q0.trans ?_
        show Steps p.tables e below (s₁.setTop (mkF m 43 #[.val (.int p1), .val (.int p2), .val (.int p3), .val (.int p4), .val (.int p5), .val (.int rA), .val (.int rB), .val (.int rC), .unset, .unset, .unset, .unset, .unset, .unset, .unset, .unset, .unset, .unset, .unset, .unset, .unset, .unset, .unset, .unset, .unset, .unset, .unset, .unset, .unset, .unset, .unset, .unset, .unset, .unset, .unset, .unset, .unset, .unset, .unset, .unset, .unset, .unset, .unset, .unset, .unset, .unset, .unset] [(.int (p1 &&& (8 : Int32)))])) _
        refine XS.ifYes X0.here hx rfl (pc0 := 43) (pc' := 50) rfl (hb hby at_43) rfl ((if0 _ _).trans (teq hf149).1) (by decide) (by decide) ?_
        show Steps p.tables e below (s₁.setTop (mkF m 50 #[.val (.int p1), .val (.int p2), .val (.int p3), .val (.int p4), .val (.int p5), .val (.int rA), .val (.int rB), .val (.int rC), .unset, .unset, .unset, .unset, .unset, .unset, .unset, .unset, .unset, .unset, .unset, .unset, .unset, .unset, .unset, .unset, .unset, .unset, .unset, .unset, .unset, .unset, .unset, .unset, .unset, .unset, .unset, .unset, .unset, .unset, .unset, .unset, .unset, .unset, .unset, .unset, .unset, .unset, .unset] [])) _
        refine XS.iconst X0.here hx rfl (hb hby at_50) ?_
        exact Steps.refl _
      exact r150
    · skip
      rw [show (if (p1 &&& (8 : Int32)) = (0 : Int32) then (0 : Int32) else (1 : Int32)) = (1 : Int32) from if_neg hf149]
      have q0 : Steps p.tables e below (s₁.setTop (mkF m 43 #[.val (.int p1), .val (.int p2), .val (.int p3), .val (.int p4), .val (.int p5), .val (.int rA), .val (.int rB), .val (.int rC), .unset, .unset, .unset, .unset, .unset, .unset, .unset, .unset, .unset, .unset, .unset, .unset, .unset, .unset, .unset, .unset, .unset, .unset, .unset, .unset, .unset, .unset, .unset, .unset, .unset, .unset, .unset, .unset, .unset, .unset, .unset, .unset, .unset, .unset, .unset, .unset, .unset, .unset, .unset] [(.int (p1 &&& (8 : Int32)))])) (s₁.setTop (mkF m 43 #[.val (.int p1), .val (.int p2), .val (.int p3), .val (.int p4), .val (.int p5), .val (.int rA), .val (.int rB), .val (.int rC), .unset, .unset, .unset, .unset, .unset, .unset, .unset, .unset, .unset, .unset, .unset, .unset, .unset, .unset, .unset, .unset, .unset, .unset, .unset, .unset, .unset, .unset, .unset, .unset, .unset, .unset, .unset, .unset, .unset, .unset, .unset, .unset, .unset, .unset, .unset, .unset, .unset, .unset, .unset] [(.int (p1 &&& (8 : Int32)))])) := Steps.refl _
      have r151 : Steps p.tables e below (s₁.setTop (mkF m 43 #[.val (.int p1), .val (.int p2), .val (.int p3), .val (.int p4), .val (.int p5), .val (.int rA), .val (.int rB), .val (.int rC), .unset, .unset, .unset, .unset, .unset, .unset, .unset, .unset, .unset, .unset, .unset, .unset, .unset, .unset, .unset, .unset, .unset, .unset, .unset, .unset, .unset, .unset, .unset, .unset, .unset, .unset, .unset, .unset, .unset, .unset, .unset, .unset, .unset, .unset, .unset, .unset, .unset, .unset, .unset] [(.int (p1 &&& (8 : Int32)))])) (s₁.setTop (mkF m 51 #[.val (.int p1), .val (.int p2), .val (.int p3), .val (.int p4), .val (.int p5), .val (.int rA), .val (.int rB), .val (.int rC), .unset, .unset, .unset, .unset, .unset, .unset, .unset, .unset, .unset, .unset, .unset, .unset, .unset, .unset, .unset, .unset, .unset, .unset, .unset, .unset, .unset, .unset, .unset, .unset, .unset, .unset, .unset, .unset, .unset, .unset, .unset, .unset, .unset, .unset, .unset, .unset, .unset, .unset, .unset] [(.int (1 : Int32))])) := by
        refine q0.trans ?_
        show Steps p.tables e below (s₁.setTop (mkF m 43 #[.val (.int p1), .val (.int p2), .val (.int p3), .val (.int p4), .val (.int p5), .val (.int rA), .val (.int rB), .val (.int rC), .unset, .unset, .unset, .unset, .unset, .unset, .unset, .unset, .unset, .unset, .unset, .unset, .unset, .unset, .unset, .unset, .unset, .unset, .unset, .unset, .unset, .unset, .unset, .unset, .unset, .unset, .unset, .unset, .unset, .unset, .unset, .unset, .unset, .unset, .unset, .unset, .unset, .unset, .unset] [(.int (p1 &&& (8 : Int32)))])) _
        refine XS.ifNo X0.here hx rfl (hb hby at_43) rfl ((if0 _ _).trans (feq hf149).1) ?_
        show Steps p.tables e below (s₁.setTop (mkF m 46 #[.val (.int p1), .val (.int p2), .val (.int p3), .val (.int p4), .val (.int p5), .val (.int rA), .val (.int rB), .val (.int rC), .unset, .unset, .unset, .unset, .unset, .unset, .unset, .unset, .unset, .unset, .unset, .unset, .unset, .unset, .unset, .unset, .unset, .unset, .unset, .unset, .unset, .unset, .unset, .unset, .unset, .unset, .unset, .unset, .unset, .unset, .unset, .unset, .unset, .unset, .unset, .unset, .unset, .unset, .unset] [])) _
        refine XS.iconst X0.here hx rfl (hb hby at_46) ?_
        show Steps p.tables e below (s₁.setTop (mkF m 47 #[.val (.int p1), .val (.int p2), .val (.int p3), .val (.int p4), .val (.int p5), .val (.int rA), .val (.int rB), .val (.int rC), .unset, .unset, .unset, .unset, .unset, .unset, .unset, .unset, .unset, .unset, .unset, .unset, .unset, .unset, .unset, .unset, .unset, .unset, .unset, .unset, .unset, .unset, .unset, .unset, .unset, .unset, .unset, .unset, .unset, .unset, .unset, .unset, .unset, .unset, .unset, .unset, .unset, .unset, .unset] [(.int (1 : Int32))])) _
        refine XS.goto X0.here hx rfl (pc0 := 47) (pc' := 51) rfl (hb hby at_47) (by decide) (by decide) ?_
        exact Steps.refl _
      exact r151
  have r153 : Steps p.tables e below S0 (s₁.setTop (mkF m 53 #[.val (.int p1), .val (.int p2), .val (.int p3), .val (.int p4), .val (.int p5), .val (.int rA), .val (.int rB), .val (.int rC), .val (.int (if (p1 &&& (8 : Int32)) = (0 : Int32) then (0 : Int32) else (1 : Int32))), .unset, .unset, .unset, .unset, .unset, .unset, .unset, .unset, .unset, .unset, .unset, .unset, .unset, .unset, .unset, .unset, .unset, .unset, .unset, .unset, .unset, .unset, .unset, .unset, .unset, .unset, .unset, .unset, .unset, .unset, .unset, .unset, .unset, .unset, .unset, .unset, .unset, .unset] [])) := by
    refine r152.trans ?_
    show Steps p.tables e below (s₁.setTop (mkF m 51 #[.val (.int p1), .val (.int p2), .val (.int p3), .val (.int p4), .val (.int p5), .val (.int rA), .val (.int rB), .val (.int rC), .unset, .unset, .unset, .unset, .unset, .unset, .unset, .unset, .unset, .unset, .unset, .unset, .unset, .unset, .unset, .unset, .unset, .unset, .unset, .unset, .unset, .unset, .unset, .unset, .unset, .unset, .unset, .unset, .unset, .unset, .unset, .unset, .unset, .unset, .unset, .unset, .unset, .unset, .unset] [(.int (if (p1 &&& (8 : Int32)) = (0 : Int32) then (0 : Int32) else (1 : Int32)))])) _
    refine XS.istore X0.here hx rfl (hb hby at_51) rfl (l' := #[.val (.int p1), .val (.int p2), .val (.int p3), .val (.int p4), .val (.int p5), .val (.int rA), .val (.int rB), .val (.int rC), .val (.int (if (p1 &&& (8 : Int32)) = (0 : Int32) then (0 : Int32) else (1 : Int32))), .unset, .unset, .unset, .unset, .unset, .unset, .unset, .unset, .unset, .unset, .unset, .unset, .unset, .unset, .unset, .unset, .unset, .unset, .unset, .unset, .unset, .unset, .unset, .unset, .unset, .unset, .unset, .unset, .unset, .unset, .unset, .unset, .unset, .unset, .unset, .unset, .unset, .unset]) rfl ?_
    exact Steps.refl _
  obtain ⟨rU, hrU⟩ : ∃ z, z = (if (p1 &&& (8 : Int32)) = (0 : Int32) then (0 : Int32) else (1 : Int32)) := ⟨_, rfl⟩
  have r154 : Steps p.tables e below S0 (s₁.setTop (mkF m 53 #[.val (.int p1), .val (.int p2), .val (.int p3), .val (.int p4), .val (.int p5), .val (.int rA), .val (.int rB), .val (.int rC), .val (.int rU), .unset, .unset, .unset, .unset, .unset, .unset, .unset, .unset, .unset, .unset, .unset, .unset, .unset, .unset, .unset, .unset, .unset, .unset, .unset, .unset, .unset, .unset, .unset, .unset, .unset, .unset, .unset, .unset, .unset, .unset, .unset, .unset, .unset, .unset, .unset, .unset, .unset, .unset] [])) := by rw [hrU]; exact r153
  have r155 : Steps p.tables e below S0 (s₁.setTop (mkF m 60 #[.val (.int p1), .val (.int p2), .val (.int p3), .val (.int p4), .val (.int p5), .val (.int rA), .val (.int rB), .val (.int rC), .val (.int rU), .val (.int (((p1.toUInt32 >>> ((4 : Int32) &&& 31).toUInt32).toInt32) &&& (1 : Int32))), .unset, .unset, .unset, .unset, .unset, .unset, .unset, .unset, .unset, .unset, .unset, .unset, .unset, .unset, .unset, .unset, .unset, .unset, .unset, .unset, .unset, .unset, .unset, .unset, .unset, .unset, .unset, .unset, .unset, .unset, .unset, .unset, .unset, .unset, .unset, .unset, .unset] [])) := by
    refine r154.trans ?_
    show Steps p.tables e below (s₁.setTop (mkF m 53 #[.val (.int p1), .val (.int p2), .val (.int p3), .val (.int p4), .val (.int p5), .val (.int rA), .val (.int rB), .val (.int rC), .val (.int rU), .unset, .unset, .unset, .unset, .unset, .unset, .unset, .unset, .unset, .unset, .unset, .unset, .unset, .unset, .unset, .unset, .unset, .unset, .unset, .unset, .unset, .unset, .unset, .unset, .unset, .unset, .unset, .unset, .unset, .unset, .unset, .unset, .unset, .unset, .unset, .unset, .unset, .unset] [])) _
    refine XS.iloadN X0.here hx rfl (hb hby at_53) rfl ?_
    show Steps p.tables e below (s₁.setTop (mkF m 54 #[.val (.int p1), .val (.int p2), .val (.int p3), .val (.int p4), .val (.int p5), .val (.int rA), .val (.int rB), .val (.int rC), .val (.int rU), .unset, .unset, .unset, .unset, .unset, .unset, .unset, .unset, .unset, .unset, .unset, .unset, .unset, .unset, .unset, .unset, .unset, .unset, .unset, .unset, .unset, .unset, .unset, .unset, .unset, .unset, .unset, .unset, .unset, .unset, .unset, .unset, .unset, .unset, .unset, .unset, .unset, .unset] [(.int p1)])) _
    refine XS.iconst X0.here hx rfl (hb hby at_54) ?_
    show Steps p.tables e below (s₁.setTop (mkF m 55 #[.val (.int p1), .val (.int p2), .val (.int p3), .val (.int p4), .val (.int p5), .val (.int rA), .val (.int rB), .val (.int rC), .val (.int rU), .unset, .unset, .unset, .unset, .unset, .unset, .unset, .unset, .unset, .unset, .unset, .unset, .unset, .unset, .unset, .unset, .unset, .unset, .unset, .unset, .unset, .unset, .unset, .unset, .unset, .unset, .unset, .unset, .unset, .unset, .unset, .unset, .unset, .unset, .unset, .unset, .unset, .unset] [(.int (4 : Int32)), (.int p1)])) _
    refine XS.iushr X0.here hx rfl (hb hby at_55) rfl ?_
    show Steps p.tables e below (s₁.setTop (mkF m 56 #[.val (.int p1), .val (.int p2), .val (.int p3), .val (.int p4), .val (.int p5), .val (.int rA), .val (.int rB), .val (.int rC), .val (.int rU), .unset, .unset, .unset, .unset, .unset, .unset, .unset, .unset, .unset, .unset, .unset, .unset, .unset, .unset, .unset, .unset, .unset, .unset, .unset, .unset, .unset, .unset, .unset, .unset, .unset, .unset, .unset, .unset, .unset, .unset, .unset, .unset, .unset, .unset, .unset, .unset, .unset, .unset] [(.int ((p1.toUInt32 >>> ((4 : Int32) &&& 31).toUInt32).toInt32))])) _
    refine XS.iconst X0.here hx rfl (hb hby at_56) ?_
    show Steps p.tables e below (s₁.setTop (mkF m 57 #[.val (.int p1), .val (.int p2), .val (.int p3), .val (.int p4), .val (.int p5), .val (.int rA), .val (.int rB), .val (.int rC), .val (.int rU), .unset, .unset, .unset, .unset, .unset, .unset, .unset, .unset, .unset, .unset, .unset, .unset, .unset, .unset, .unset, .unset, .unset, .unset, .unset, .unset, .unset, .unset, .unset, .unset, .unset, .unset, .unset, .unset, .unset, .unset, .unset, .unset, .unset, .unset, .unset, .unset, .unset, .unset] [(.int (1 : Int32)), (.int ((p1.toUInt32 >>> ((4 : Int32) &&& 31).toUInt32).toInt32))])) _
    refine XS.iand X0.here hx rfl (hb hby at_57) rfl ?_
    show Steps p.tables e below (s₁.setTop (mkF m 58 #[.val (.int p1), .val (.int p2), .val (.int p3), .val (.int p4), .val (.int p5), .val (.int rA), .val (.int rB), .val (.int rC), .val (.int rU), .unset, .unset, .unset, .unset, .unset, .unset, .unset, .unset, .unset, .unset, .unset, .unset, .unset, .unset, .unset, .unset, .unset, .unset, .unset, .unset, .unset, .unset, .unset, .unset, .unset, .unset, .unset, .unset, .unset, .unset, .unset, .unset, .unset, .unset, .unset, .unset, .unset, .unset] [(.int (((p1.toUInt32 >>> ((4 : Int32) &&& 31).toUInt32).toInt32) &&& (1 : Int32)))])) _
    refine XS.istore X0.here hx rfl (hb hby at_58) rfl (l' := #[.val (.int p1), .val (.int p2), .val (.int p3), .val (.int p4), .val (.int p5), .val (.int rA), .val (.int rB), .val (.int rC), .val (.int rU), .val (.int (((p1.toUInt32 >>> ((4 : Int32) &&& 31).toUInt32).toInt32) &&& (1 : Int32))), .unset, .unset, .unset, .unset, .unset, .unset, .unset, .unset, .unset, .unset, .unset, .unset, .unset, .unset, .unset, .unset, .unset, .unset, .unset, .unset, .unset, .unset, .unset, .unset, .unset, .unset, .unset, .unset, .unset, .unset, .unset, .unset, .unset, .unset, .unset, .unset, .unset]) rfl ?_
    exact Steps.refl _
  obtain ⟨q, hq⟩ : ∃ z, z = (((p1.toUInt32 >>> ((4 : Int32) &&& 31).toUInt32).toInt32) &&& (1 : Int32)) := ⟨_, rfl⟩
  have r156 : Steps p.tables e below S0 (s₁.setTop (mkF m 60 #[.val (.int p1), .val (.int p2), .val (.int p3), .val (.int p4), .val (.int p5), .val (.int rA), .val (.int rB), .val (.int rC), .val (.int rU), .val (.int q), .unset, .unset, .unset, .unset, .unset, .unset, .unset, .unset, .unset, .unset, .unset, .unset, .unset, .unset, .unset, .unset, .unset, .unset, .unset, .unset, .unset, .unset, .unset, .unset, .unset, .unset, .unset, .unset, .unset, .unset, .unset, .unset, .unset, .unset, .unset, .unset, .unset] [])) := by rw [hq]; exact r155
  have hq2 : q = 0 ∨ q = 1 := by rw [hq]; exact own_bit _
  obtain ⟨hq0, hq3⟩ := cl_ok hq2
  have r157 : Steps p.tables e below S0 (s₁.setTop (mkF m 67 #[.val (.int p1), .val (.int p2), .val (.int p3), .val (.int p4), .val (.int p5), .val (.int rA), .val (.int rB), .val (.int rC), .val (.int rU), .val (.int q), .unset, .unset, .unset, .unset, .unset, .unset, .unset, .unset, .unset, .unset, .unset, .unset, .unset, .unset, .unset, .unset, .unset, .unset, .unset, .unset, .unset, .unset, .unset, .unset, .unset, .unset, .unset, .unset, .unset, .unset, .unset, .unset, .unset, .unset, .unset, .unset, .unset] [(.int ((1 : Int32) <<< ((((p1.toUInt32 >>> ((5 : Int32) &&& 31).toUInt32).toInt32) &&& (3 : Int32)) &&& 31)))])) := by
    refine r156.trans ?_
    show Steps p.tables e below (s₁.setTop (mkF m 60 #[.val (.int p1), .val (.int p2), .val (.int p3), .val (.int p4), .val (.int p5), .val (.int rA), .val (.int rB), .val (.int rC), .val (.int rU), .val (.int q), .unset, .unset, .unset, .unset, .unset, .unset, .unset, .unset, .unset, .unset, .unset, .unset, .unset, .unset, .unset, .unset, .unset, .unset, .unset, .unset, .unset, .unset, .unset, .unset, .unset, .unset, .unset, .unset, .unset, .unset, .unset, .unset, .unset, .unset, .unset, .unset, .unset] [])) _
    refine XS.iconst X0.here hx rfl (hb hby at_60) ?_
    show Steps p.tables e below (s₁.setTop (mkF m 61 #[.val (.int p1), .val (.int p2), .val (.int p3), .val (.int p4), .val (.int p5), .val (.int rA), .val (.int rB), .val (.int rC), .val (.int rU), .val (.int q), .unset, .unset, .unset, .unset, .unset, .unset, .unset, .unset, .unset, .unset, .unset, .unset, .unset, .unset, .unset, .unset, .unset, .unset, .unset, .unset, .unset, .unset, .unset, .unset, .unset, .unset, .unset, .unset, .unset, .unset, .unset, .unset, .unset, .unset, .unset, .unset, .unset] [(.int (1 : Int32))])) _
    refine XS.iloadN X0.here hx rfl (hb hby at_61) rfl ?_
    show Steps p.tables e below (s₁.setTop (mkF m 62 #[.val (.int p1), .val (.int p2), .val (.int p3), .val (.int p4), .val (.int p5), .val (.int rA), .val (.int rB), .val (.int rC), .val (.int rU), .val (.int q), .unset, .unset, .unset, .unset, .unset, .unset, .unset, .unset, .unset, .unset, .unset, .unset, .unset, .unset, .unset, .unset, .unset, .unset, .unset, .unset, .unset, .unset, .unset, .unset, .unset, .unset, .unset, .unset, .unset, .unset, .unset, .unset, .unset, .unset, .unset, .unset, .unset] [(.int p1), (.int (1 : Int32))])) _
    refine XS.iconst X0.here hx rfl (hb hby at_62) ?_
    show Steps p.tables e below (s₁.setTop (mkF m 63 #[.val (.int p1), .val (.int p2), .val (.int p3), .val (.int p4), .val (.int p5), .val (.int rA), .val (.int rB), .val (.int rC), .val (.int rU), .val (.int q), .unset, .unset, .unset, .unset, .unset, .unset, .unset, .unset, .unset, .unset, .unset, .unset, .unset, .unset, .unset, .unset, .unset, .unset, .unset, .unset, .unset, .unset, .unset, .unset, .unset, .unset, .unset, .unset, .unset, .unset, .unset, .unset, .unset, .unset, .unset, .unset, .unset] [(.int (5 : Int32)), (.int p1), (.int (1 : Int32))])) _
    refine XS.iushr X0.here hx rfl (hb hby at_63) rfl ?_
    show Steps p.tables e below (s₁.setTop (mkF m 64 #[.val (.int p1), .val (.int p2), .val (.int p3), .val (.int p4), .val (.int p5), .val (.int rA), .val (.int rB), .val (.int rC), .val (.int rU), .val (.int q), .unset, .unset, .unset, .unset, .unset, .unset, .unset, .unset, .unset, .unset, .unset, .unset, .unset, .unset, .unset, .unset, .unset, .unset, .unset, .unset, .unset, .unset, .unset, .unset, .unset, .unset, .unset, .unset, .unset, .unset, .unset, .unset, .unset, .unset, .unset, .unset, .unset] [(.int ((p1.toUInt32 >>> ((5 : Int32) &&& 31).toUInt32).toInt32)), (.int (1 : Int32))])) _
    refine XS.iconst X0.here hx rfl (hb hby at_64) ?_
    show Steps p.tables e below (s₁.setTop (mkF m 65 #[.val (.int p1), .val (.int p2), .val (.int p3), .val (.int p4), .val (.int p5), .val (.int rA), .val (.int rB), .val (.int rC), .val (.int rU), .val (.int q), .unset, .unset, .unset, .unset, .unset, .unset, .unset, .unset, .unset, .unset, .unset, .unset, .unset, .unset, .unset, .unset, .unset, .unset, .unset, .unset, .unset, .unset, .unset, .unset, .unset, .unset, .unset, .unset, .unset, .unset, .unset, .unset, .unset, .unset, .unset, .unset, .unset] [(.int (3 : Int32)), (.int ((p1.toUInt32 >>> ((5 : Int32) &&& 31).toUInt32).toInt32)), (.int (1 : Int32))])) _
    refine XS.iand X0.here hx rfl (hb hby at_65) rfl ?_
    show Steps p.tables e below (s₁.setTop (mkF m 66 #[.val (.int p1), .val (.int p2), .val (.int p3), .val (.int p4), .val (.int p5), .val (.int rA), .val (.int rB), .val (.int rC), .val (.int rU), .val (.int q), .unset, .unset, .unset, .unset, .unset, .unset, .unset, .unset, .unset, .unset, .unset, .unset, .unset, .unset, .unset, .unset, .unset, .unset, .unset, .unset, .unset, .unset, .unset, .unset, .unset, .unset, .unset, .unset, .unset, .unset, .unset, .unset, .unset, .unset, .unset, .unset, .unset] [(.int (((p1.toUInt32 >>> ((5 : Int32) &&& 31).toUInt32).toInt32) &&& (3 : Int32))), (.int (1 : Int32))])) _
    refine XS.ishl X0.here hx rfl (hb hby at_66) rfl ?_
    exact Steps.refl _
  obtain ⟨sa, hsa⟩ : ∃ z, z = ((1 : Int32) <<< ((((p1.toUInt32 >>> ((5 : Int32) &&& 31).toUInt32).toInt32) &&& (3 : Int32)) &&& 31)) := ⟨_, rfl⟩
  have r158 : Steps p.tables e below S0 (s₁.setTop (mkF m 67 #[.val (.int p1), .val (.int p2), .val (.int p3), .val (.int p4), .val (.int p5), .val (.int rA), .val (.int rB), .val (.int rC), .val (.int rU), .val (.int q), .unset, .unset, .unset, .unset, .unset, .unset, .unset, .unset, .unset, .unset, .unset, .unset, .unset, .unset, .unset, .unset, .unset, .unset, .unset, .unset, .unset, .unset, .unset, .unset, .unset, .unset, .unset, .unset, .unset, .unset, .unset, .unset, .unset, .unset, .unset, .unset, .unset] [(.int sa)])) := by rw [hsa]; exact r157
  have r159 : Steps p.tables e below S0 (s₁.setTop (mkF m 78 #[.val (.int p1), .val (.int p2), .val (.int p3), .val (.int p4), .val (.int p5), .val (.int rA), .val (.int rB), .val (.int rC), .val (.int rU), .val (.int q), .val (.double (FP.i2d sa)), .second, .unset, .unset, .unset, .unset, .unset, .unset, .unset, .unset, .unset, .unset, .unset, .unset, .unset, .unset, .unset, .unset, .unset, .unset, .unset, .unset, .unset, .unset, .unset, .unset, .unset, .unset, .unset, .unset, .unset, .unset, .unset, .unset, .unset, .unset, .unset] [(.int ((1 : Int32) <<< ((((p1.toUInt32 >>> ((7 : Int32) &&& 31).toUInt32).toInt32) &&& (3 : Int32)) &&& 31)))])) := by
    refine r158.trans ?_
    show Steps p.tables e below (s₁.setTop (mkF m 67 #[.val (.int p1), .val (.int p2), .val (.int p3), .val (.int p4), .val (.int p5), .val (.int rA), .val (.int rB), .val (.int rC), .val (.int rU), .val (.int q), .unset, .unset, .unset, .unset, .unset, .unset, .unset, .unset, .unset, .unset, .unset, .unset, .unset, .unset, .unset, .unset, .unset, .unset, .unset, .unset, .unset, .unset, .unset, .unset, .unset, .unset, .unset, .unset, .unset, .unset, .unset, .unset, .unset, .unset, .unset, .unset, .unset] [(.int sa)])) _
    refine XS.i2dS X0.here hx rfl (hb hby at_67) rfl rfl ?_
    show Steps p.tables e below (s₁.setTop (mkF m 68 #[.val (.int p1), .val (.int p2), .val (.int p3), .val (.int p4), .val (.int p5), .val (.int rA), .val (.int rB), .val (.int rC), .val (.int rU), .val (.int q), .unset, .unset, .unset, .unset, .unset, .unset, .unset, .unset, .unset, .unset, .unset, .unset, .unset, .unset, .unset, .unset, .unset, .unset, .unset, .unset, .unset, .unset, .unset, .unset, .unset, .unset, .unset, .unset, .unset, .unset, .unset, .unset, .unset, .unset, .unset, .unset, .unset] [(.double (FP.i2d sa))])) _
    refine XS.dstore X0.here hx rfl (hb hby at_68) rfl (l' := #[.val (.int p1), .val (.int p2), .val (.int p3), .val (.int p4), .val (.int p5), .val (.int rA), .val (.int rB), .val (.int rC), .val (.int rU), .val (.int q), .val (.double (FP.i2d sa)), .second, .unset, .unset, .unset, .unset, .unset, .unset, .unset, .unset, .unset, .unset, .unset, .unset, .unset, .unset, .unset, .unset, .unset, .unset, .unset, .unset, .unset, .unset, .unset, .unset, .unset, .unset, .unset, .unset, .unset, .unset, .unset, .unset, .unset, .unset, .unset]) rfl ?_
    show Steps p.tables e below (s₁.setTop (mkF m 70 #[.val (.int p1), .val (.int p2), .val (.int p3), .val (.int p4), .val (.int p5), .val (.int rA), .val (.int rB), .val (.int rC), .val (.int rU), .val (.int q), .val (.double (FP.i2d sa)), .second, .unset, .unset, .unset, .unset, .unset, .unset, .unset, .unset, .unset, .unset, .unset, .unset, .unset, .unset, .unset, .unset, .unset, .unset, .unset, .unset, .unset, .unset, .unset, .unset, .unset, .unset, .unset, .unset, .unset, .unset, .unset, .unset, .unset, .unset, .unset] [])) _
    refine XS.iconst X0.here hx rfl (hb hby at_70) ?_
    show Steps p.tables e below (s₁.setTop (mkF m 71 #[.val (.int p1), .val (.int p2), .val (.int p3), .val (.int p4), .val (.int p5), .val (.int rA), .val (.int rB), .val (.int rC), .val (.int rU), .val (.int q), .val (.double (FP.i2d sa)), .second, .unset, .unset, .unset, .unset, .unset, .unset, .unset, .unset, .unset, .unset, .unset, .unset, .unset, .unset, .unset, .unset, .unset, .unset, .unset, .unset, .unset, .unset, .unset, .unset, .unset, .unset, .unset, .unset, .unset, .unset, .unset, .unset, .unset, .unset, .unset] [(.int (1 : Int32))])) _
    refine XS.iloadN X0.here hx rfl (hb hby at_71) rfl ?_
    show Steps p.tables e below (s₁.setTop (mkF m 72 #[.val (.int p1), .val (.int p2), .val (.int p3), .val (.int p4), .val (.int p5), .val (.int rA), .val (.int rB), .val (.int rC), .val (.int rU), .val (.int q), .val (.double (FP.i2d sa)), .second, .unset, .unset, .unset, .unset, .unset, .unset, .unset, .unset, .unset, .unset, .unset, .unset, .unset, .unset, .unset, .unset, .unset, .unset, .unset, .unset, .unset, .unset, .unset, .unset, .unset, .unset, .unset, .unset, .unset, .unset, .unset, .unset, .unset, .unset, .unset] [(.int p1), (.int (1 : Int32))])) _
    refine XS.bipush X0.here hx rfl (hb hby at_72) ?_
    show Steps p.tables e below (s₁.setTop (mkF m 74 #[.val (.int p1), .val (.int p2), .val (.int p3), .val (.int p4), .val (.int p5), .val (.int rA), .val (.int rB), .val (.int rC), .val (.int rU), .val (.int q), .val (.double (FP.i2d sa)), .second, .unset, .unset, .unset, .unset, .unset, .unset, .unset, .unset, .unset, .unset, .unset, .unset, .unset, .unset, .unset, .unset, .unset, .unset, .unset, .unset, .unset, .unset, .unset, .unset, .unset, .unset, .unset, .unset, .unset, .unset, .unset, .unset, .unset, .unset, .unset] [(.int (7 : Int32)), (.int p1), (.int (1 : Int32))])) _
    refine XS.iushr X0.here hx rfl (hb hby at_74) rfl ?_
    show Steps p.tables e below (s₁.setTop (mkF m 75 #[.val (.int p1), .val (.int p2), .val (.int p3), .val (.int p4), .val (.int p5), .val (.int rA), .val (.int rB), .val (.int rC), .val (.int rU), .val (.int q), .val (.double (FP.i2d sa)), .second, .unset, .unset, .unset, .unset, .unset, .unset, .unset, .unset, .unset, .unset, .unset, .unset, .unset, .unset, .unset, .unset, .unset, .unset, .unset, .unset, .unset, .unset, .unset, .unset, .unset, .unset, .unset, .unset, .unset, .unset, .unset, .unset, .unset, .unset, .unset] [(.int ((p1.toUInt32 >>> ((7 : Int32) &&& 31).toUInt32).toInt32)), (.int (1 : Int32))])) _
    refine XS.iconst X0.here hx rfl (hb hby at_75) ?_
    show Steps p.tables e below (s₁.setTop (mkF m 76 #[.val (.int p1), .val (.int p2), .val (.int p3), .val (.int p4), .val (.int p5), .val (.int rA), .val (.int rB), .val (.int rC), .val (.int rU), .val (.int q), .val (.double (FP.i2d sa)), .second, .unset, .unset, .unset, .unset, .unset, .unset, .unset, .unset, .unset, .unset, .unset, .unset, .unset, .unset, .unset, .unset, .unset, .unset, .unset, .unset, .unset, .unset, .unset, .unset, .unset, .unset, .unset, .unset, .unset, .unset, .unset, .unset, .unset, .unset, .unset] [(.int (3 : Int32)), (.int ((p1.toUInt32 >>> ((7 : Int32) &&& 31).toUInt32).toInt32)), (.int (1 : Int32))])) _
    refine XS.iand X0.here hx rfl (hb hby at_76) rfl ?_
    show Steps p.tables e below (s₁.setTop (mkF m 77 #[.val (.int p1), .val (.int p2), .val (.int p3), .val (.int p4), .val (.int p5), .val (.int rA), .val (.int rB), .val (.int rC), .val (.int rU), .val (.int q), .val (.double (FP.i2d sa)), .second, .unset, .unset, .unset, .unset, .unset, .unset, .unset, .unset, .unset, .unset, .unset, .unset, .unset, .unset, .unset, .unset, .unset, .unset, .unset, .unset, .unset, .unset, .unset, .unset, .unset, .unset, .unset, .unset, .unset, .unset, .unset, .unset, .unset, .unset, .unset] [(.int (((p1.toUInt32 >>> ((7 : Int32) &&& 31).toUInt32).toInt32) &&& (3 : Int32))), (.int (1 : Int32))])) _
    refine XS.ishl X0.here hx rfl (hb hby at_77) rfl ?_
    exact Steps.refl _
  obtain ⟨sb, hsb⟩ : ∃ z, z = ((1 : Int32) <<< ((((p1.toUInt32 >>> ((7 : Int32) &&& 31).toUInt32).toInt32) &&& (3 : Int32)) &&& 31)) := ⟨_, rfl⟩
  have r160 : Steps p.tables e below S0 (s₁.setTop (mkF m 78 #[.val (.int p1), .val (.int p2), .val (.int p3), .val (.int p4), .val (.int p5), .val (.int rA), .val (.int rB), .val (.int rC), .val (.int rU), .val (.int q), .val (.double (FP.i2d sa)), .second, .unset, .unset, .unset, .unset, .unset, .unset, .unset, .unset, .unset, .unset, .unset, .unset, .unset, .unset, .unset, .unset, .unset, .unset, .unset, .unset, .unset, .unset, .unset, .unset, .unset, .unset, .unset, .unset, .unset, .unset, .unset, .unset, .unset, .unset, .unset] [(.int sb)])) := by rw [hsb]; exact r159
  have r161 : Steps p.tables e below S0 (s₁.setTop (mkF m 89 #[.val (.int p1), .val (.int p2), .val (.int p3), .val (.int p4), .val (.int p5), .val (.int rA), .val (.int rB), .val (.int rC), .val (.int rU), .val (.int q), .val (.double (FP.i2d sa)), .second, .val (.double (FP.i2d sb)), .second, .unset, .unset, .unset, .unset, .unset, .unset, .unset, .unset, .unset, .unset, .unset, .unset, .unset, .unset, .unset, .unset, .unset, .unset, .unset, .unset, .unset, .unset, .unset, .unset, .unset, .unset, .unset, .unset, .unset, .unset, .unset, .unset, .unset] [(.int ((1 : Int32) <<< ((((p1.toUInt32 >>> ((9 : Int32) &&& 31).toUInt32).toInt32) &&& (3 : Int32)) &&& 31)))])) := by
    refine r160.trans ?_
    show Steps p.tables e below (s₁.setTop (mkF m 78 #[.val (.int p1), .val (.int p2), .val (.int p3), .val (.int p4), .val (.int p5), .val (.int rA), .val (.int rB), .val (.int rC), .val (.int rU), .val (.int q), .val (.double (FP.i2d sa)), .second, .unset, .unset, .unset, .unset, .unset, .unset, .unset, .unset, .unset, .unset, .unset, .unset, .unset, .unset, .unset, .unset, .unset, .unset, .unset, .unset, .unset, .unset, .unset, .unset, .unset, .unset, .unset, .unset, .unset, .unset, .unset, .unset, .unset, .unset, .unset] [(.int sb)])) _
    refine XS.i2dS X0.here hx rfl (hb hby at_78) rfl rfl ?_
    show Steps p.tables e below (s₁.setTop (mkF m 79 #[.val (.int p1), .val (.int p2), .val (.int p3), .val (.int p4), .val (.int p5), .val (.int rA), .val (.int rB), .val (.int rC), .val (.int rU), .val (.int q), .val (.double (FP.i2d sa)), .second, .unset, .unset, .unset, .unset, .unset, .unset, .unset, .unset, .unset, .unset, .unset, .unset, .unset, .unset, .unset, .unset, .unset, .unset, .unset, .unset, .unset, .unset, .unset, .unset, .unset, .unset, .unset, .unset, .unset, .unset, .unset, .unset, .unset, .unset, .unset] [(.double (FP.i2d sb))])) _
    refine XS.dstore X0.here hx rfl (hb hby at_79) rfl (l' := #[.val (.int p1), .val (.int p2), .val (.int p3), .val (.int p4), .val (.int p5), .val (.int rA), .val (.int rB), .val (.int rC), .val (.int rU), .val (.int q), .val (.double (FP.i2d sa)), .second, .val (.double (FP.i2d sb)), .second, .unset, .unset, .unset, .unset, .unset, .unset, .unset, .unset, .unset, .unset, .unset, .unset, .unset, .unset, .unset, .unset, .unset, .unset, .unset, .unset, .unset, .unset, .unset, .unset, .unset, .unset, .unset, .unset, .unset, .unset, .unset, .unset, .unset]) rfl ?_
    show Steps p.tables e below (s₁.setTop (mkF m 81 #[.val (.int p1), .val (.int p2), .val (.int p3), .val (.int p4), .val (.int p5), .val (.int rA), .val (.int rB), .val (.int rC), .val (.int rU), .val (.int q), .val (.double (FP.i2d sa)), .second, .val (.double (FP.i2d sb)), .second, .unset, .unset, .unset, .unset, .unset, .unset, .unset, .unset, .unset, .unset, .unset, .unset, .unset, .unset, .unset, .unset, .unset, .unset, .unset, .unset, .unset, .unset, .unset, .unset, .unset, .unset, .unset, .unset, .unset, .unset, .unset, .unset, .unset] [])) _
    refine XS.iconst X0.here hx rfl (hb hby at_81) ?_
    show Steps p.tables e below (s₁.setTop (mkF m 82 #[.val (.int p1), .val (.int p2), .val (.int p3), .val (.int p4), .val (.int p5), .val (.int rA), .val (.int rB), .val (.int rC), .val (.int rU), .val (.int q), .val (.double (FP.i2d sa)), .second, .val (.double (FP.i2d sb)), .second, .unset, .unset, .unset, .unset, .unset, .unset, .unset, .unset, .unset, .unset, .unset, .unset, .unset, .unset, .unset, .unset, .unset, .unset, .unset, .unset, .unset, .unset, .unset, .unset, .unset, .unset, .unset, .unset, .unset, .unset, .unset, .unset, .unset] [(.int (1 : Int32))])) _
    refine XS.iloadN X0.here hx rfl (hb hby at_82) rfl ?_
    show Steps p.tables e below (s₁.setTop (mkF m 83 #[.val (.int p1), .val (.int p2), .val (.int p3), .val (.int p4), .val (.int p5), .val (.int rA), .val (.int rB), .val (.int rC), .val (.int rU), .val (.int q), .val (.double (FP.i2d sa)), .second, .val (.double (FP.i2d sb)), .second, .unset, .unset, .unset, .unset, .unset, .unset, .unset, .unset, .unset, .unset, .unset, .unset, .unset, .unset, .unset, .unset, .unset, .unset, .unset, .unset, .unset, .unset, .unset, .unset, .unset, .unset, .unset, .unset, .unset, .unset, .unset, .unset, .unset] [(.int p1), (.int (1 : Int32))])) _
    refine XS.bipush X0.here hx rfl (hb hby at_83) ?_
    show Steps p.tables e below (s₁.setTop (mkF m 85 #[.val (.int p1), .val (.int p2), .val (.int p3), .val (.int p4), .val (.int p5), .val (.int rA), .val (.int rB), .val (.int rC), .val (.int rU), .val (.int q), .val (.double (FP.i2d sa)), .second, .val (.double (FP.i2d sb)), .second, .unset, .unset, .unset, .unset, .unset, .unset, .unset, .unset, .unset, .unset, .unset, .unset, .unset, .unset, .unset, .unset, .unset, .unset, .unset, .unset, .unset, .unset, .unset, .unset, .unset, .unset, .unset, .unset, .unset, .unset, .unset, .unset, .unset] [(.int (9 : Int32)), (.int p1), (.int (1 : Int32))])) _
    refine XS.iushr X0.here hx rfl (hb hby at_85) rfl ?_
    show Steps p.tables e below (s₁.setTop (mkF m 86 #[.val (.int p1), .val (.int p2), .val (.int p3), .val (.int p4), .val (.int p5), .val (.int rA), .val (.int rB), .val (.int rC), .val (.int rU), .val (.int q), .val (.double (FP.i2d sa)), .second, .val (.double (FP.i2d sb)), .second, .unset, .unset, .unset, .unset, .unset, .unset, .unset, .unset, .unset, .unset, .unset, .unset, .unset, .unset, .unset, .unset, .unset, .unset, .unset, .unset, .unset, .unset, .unset, .unset, .unset, .unset, .unset, .unset, .unset, .unset, .unset, .unset, .unset] [(.int ((p1.toUInt32 >>> ((9 : Int32) &&& 31).toUInt32).toInt32)), (.int (1 : Int32))])) _
    refine XS.iconst X0.here hx rfl (hb hby at_86) ?_
    show Steps p.tables e below (s₁.setTop (mkF m 87 #[.val (.int p1), .val (.int p2), .val (.int p3), .val (.int p4), .val (.int p5), .val (.int rA), .val (.int rB), .val (.int rC), .val (.int rU), .val (.int q), .val (.double (FP.i2d sa)), .second, .val (.double (FP.i2d sb)), .second, .unset, .unset, .unset, .unset, .unset, .unset, .unset, .unset, .unset, .unset, .unset, .unset, .unset, .unset, .unset, .unset, .unset, .unset, .unset, .unset, .unset, .unset, .unset, .unset, .unset, .unset, .unset, .unset, .unset, .unset, .unset, .unset, .unset] [(.int (3 : Int32)), (.int ((p1.toUInt32 >>> ((9 : Int32) &&& 31).toUInt32).toInt32)), (.int (1 : Int32))])) _
    refine XS.iand X0.here hx rfl (hb hby at_87) rfl ?_
    show Steps p.tables e below (s₁.setTop (mkF m 88 #[.val (.int p1), .val (.int p2), .val (.int p3), .val (.int p4), .val (.int p5), .val (.int rA), .val (.int rB), .val (.int rC), .val (.int rU), .val (.int q), .val (.double (FP.i2d sa)), .second, .val (.double (FP.i2d sb)), .second, .unset, .unset, .unset, .unset, .unset, .unset, .unset, .unset, .unset, .unset, .unset, .unset, .unset, .unset, .unset, .unset, .unset, .unset, .unset, .unset, .unset, .unset, .unset, .unset, .unset, .unset, .unset, .unset, .unset, .unset, .unset, .unset, .unset] [(.int (((p1.toUInt32 >>> ((9 : Int32) &&& 31).toUInt32).toInt32) &&& (3 : Int32))), (.int (1 : Int32))])) _
    refine XS.ishl X0.here hx rfl (hb hby at_88) rfl ?_
    exact Steps.refl _
  obtain ⟨sc, hsc⟩ : ∃ z, z = ((1 : Int32) <<< ((((p1.toUInt32 >>> ((9 : Int32) &&& 31).toUInt32).toInt32) &&& (3 : Int32)) &&& 31)) := ⟨_, rfl⟩
  have r162 : Steps p.tables e below S0 (s₁.setTop (mkF m 89 #[.val (.int p1), .val (.int p2), .val (.int p3), .val (.int p4), .val (.int p5), .val (.int rA), .val (.int rB), .val (.int rC), .val (.int rU), .val (.int q), .val (.double (FP.i2d sa)), .second, .val (.double (FP.i2d sb)), .second, .unset, .unset, .unset, .unset, .unset, .unset, .unset, .unset, .unset, .unset, .unset, .unset, .unset, .unset, .unset, .unset, .unset, .unset, .unset, .unset, .unset, .unset, .unset, .unset, .unset, .unset, .unset, .unset, .unset, .unset, .unset, .unset, .unset] [(.int sc)])) := by rw [hsc]; exact r161
  have r163 : Steps p.tables e below S0 (s₁.setTop (mkF m 97 #[.val (.int p1), .val (.int p2), .val (.int p3), .val (.int p4), .val (.int p5), .val (.int rA), .val (.int rB), .val (.int rC), .val (.int rU), .val (.int q), .val (.double (FP.i2d sa)), .second, .val (.double (FP.i2d sb)), .second, .val (.double (FP.i2d sc)), .second, .unset, .unset, .unset, .unset, .unset, .unset, .unset, .unset, .unset, .unset, .unset, .unset, .unset, .unset, .unset, .unset, .unset, .unset, .unset, .unset, .unset, .unset, .unset, .unset, .unset, .unset, .unset, .unset, .unset, .unset, .unset] [(.int (p2 % (1000 : Int32)))])) := by
    refine r162.trans ?_
    show Steps p.tables e below (s₁.setTop (mkF m 89 #[.val (.int p1), .val (.int p2), .val (.int p3), .val (.int p4), .val (.int p5), .val (.int rA), .val (.int rB), .val (.int rC), .val (.int rU), .val (.int q), .val (.double (FP.i2d sa)), .second, .val (.double (FP.i2d sb)), .second, .unset, .unset, .unset, .unset, .unset, .unset, .unset, .unset, .unset, .unset, .unset, .unset, .unset, .unset, .unset, .unset, .unset, .unset, .unset, .unset, .unset, .unset, .unset, .unset, .unset, .unset, .unset, .unset, .unset, .unset, .unset, .unset, .unset] [(.int sc)])) _
    refine XS.i2dS X0.here hx rfl (hb hby at_89) rfl rfl ?_
    show Steps p.tables e below (s₁.setTop (mkF m 90 #[.val (.int p1), .val (.int p2), .val (.int p3), .val (.int p4), .val (.int p5), .val (.int rA), .val (.int rB), .val (.int rC), .val (.int rU), .val (.int q), .val (.double (FP.i2d sa)), .second, .val (.double (FP.i2d sb)), .second, .unset, .unset, .unset, .unset, .unset, .unset, .unset, .unset, .unset, .unset, .unset, .unset, .unset, .unset, .unset, .unset, .unset, .unset, .unset, .unset, .unset, .unset, .unset, .unset, .unset, .unset, .unset, .unset, .unset, .unset, .unset, .unset, .unset] [(.double (FP.i2d sc))])) _
    refine XS.dstore X0.here hx rfl (hb hby at_90) rfl (l' := #[.val (.int p1), .val (.int p2), .val (.int p3), .val (.int p4), .val (.int p5), .val (.int rA), .val (.int rB), .val (.int rC), .val (.int rU), .val (.int q), .val (.double (FP.i2d sa)), .second, .val (.double (FP.i2d sb)), .second, .val (.double (FP.i2d sc)), .second, .unset, .unset, .unset, .unset, .unset, .unset, .unset, .unset, .unset, .unset, .unset, .unset, .unset, .unset, .unset, .unset, .unset, .unset, .unset, .unset, .unset, .unset, .unset, .unset, .unset, .unset, .unset, .unset, .unset, .unset, .unset]) rfl ?_
    show Steps p.tables e below (s₁.setTop (mkF m 92 #[.val (.int p1), .val (.int p2), .val (.int p3), .val (.int p4), .val (.int p5), .val (.int rA), .val (.int rB), .val (.int rC), .val (.int rU), .val (.int q), .val (.double (FP.i2d sa)), .second, .val (.double (FP.i2d sb)), .second, .val (.double (FP.i2d sc)), .second, .unset, .unset, .unset, .unset, .unset, .unset, .unset, .unset, .unset, .unset, .unset, .unset, .unset, .unset, .unset, .unset, .unset, .unset, .unset, .unset, .unset, .unset, .unset, .unset, .unset, .unset, .unset, .unset, .unset, .unset, .unset] [])) _
    refine XS.iloadN X0.here hx rfl (hb hby at_92) rfl ?_
    show Steps p.tables e below (s₁.setTop (mkF m 93 #[.val (.int p1), .val (.int p2), .val (.int p3), .val (.int p4), .val (.int p5), .val (.int rA), .val (.int rB), .val (.int rC), .val (.int rU), .val (.int q), .val (.double (FP.i2d sa)), .second, .val (.double (FP.i2d sb)), .second, .val (.double (FP.i2d sc)), .second, .unset, .unset, .unset, .unset, .unset, .unset, .unset, .unset, .unset, .unset, .unset, .unset, .unset, .unset, .unset, .unset, .unset, .unset, .unset, .unset, .unset, .unset, .unset, .unset, .unset, .unset, .unset, .unset, .unset, .unset, .unset] [(.int p2)])) _
    refine XS.sipush X0.here hx rfl (hb hby at_93) ?_
    show Steps p.tables e below (s₁.setTop (mkF m 96 #[.val (.int p1), .val (.int p2), .val (.int p3), .val (.int p4), .val (.int p5), .val (.int rA), .val (.int rB), .val (.int rC), .val (.int rU), .val (.int q), .val (.double (FP.i2d sa)), .second, .val (.double (FP.i2d sb)), .second, .val (.double (FP.i2d sc)), .second, .unset, .unset, .unset, .unset, .unset, .unset, .unset, .unset, .unset, .unset, .unset, .unset, .unset, .unset, .unset, .unset, .unset, .unset, .unset, .unset, .unset, .unset, .unset, .unset, .unset, .unset, .unset, .unset, .unset, .unset, .unset] [(.int (1000 : Int32)), (.int p2)])) _
    refine iremM X0 hx rfl (hb hby at_96) rfl (by decide) ?_
    exact Steps.refl _
  obtain ⟨ia, hia⟩ : ∃ z, z = (p2 % (1000 : Int32)) := ⟨_, rfl⟩
  have r164 : Steps p.tables e below S0 (s₁.setTop (mkF m 97 #[.val (.int p1), .val (.int p2), .val (.int p3), .val (.int p4), .val (.int p5), .val (.int rA), .val (.int rB), .val (.int rC), .val (.int rU), .val (.int q), .val (.double (FP.i2d sa)), .second, .val (.double (FP.i2d sb)), .second, .val (.double (FP.i2d sc)), .second, .unset, .unset, .unset, .unset, .unset, .unset, .unset, .unset, .unset, .unset, .unset, .unset, .unset, .unset, .unset, .unset, .unset, .unset, .unset, .unset, .unset, .unset, .unset, .unset, .unset, .unset, .unset, .unset, .unset, .unset, .unset] [(.int ia)])) := by rw [hia]; exact r163
  have r165 : Steps p.tables e below S0 (s₁.setTop (mkF m 105 #[.val (.int p1), .val (.int p2), .val (.int p3), .val (.int p4), .val (.int p5), .val (.int rA), .val (.int rB), .val (.int rC), .val (.int rU), .val (.int q), .val (.double (FP.i2d sa)), .second, .val (.double (FP.i2d sb)), .second, .val (.double (FP.i2d sc)), .second, .val (.double (FP.i2d ia)), .second, .unset, .unset, .unset, .unset, .unset, .unset, .unset, .unset, .unset, .unset, .unset, .unset, .unset, .unset, .unset, .unset, .unset, .unset, .unset, .unset, .unset, .unset, .unset, .unset, .unset, .unset, .unset, .unset, .unset] [(.int (p3 % (1000 : Int32)))])) := by
    refine r164.trans ?_
    show Steps p.tables e below (s₁.setTop (mkF m 97 #[.val (.int p1), .val (.int p2), .val (.int p3), .val (.int p4), .val (.int p5), .val (.int rA), .val (.int rB), .val (.int rC), .val (.int rU), .val (.int q), .val (.double (FP.i2d sa)), .second, .val (.double (FP.i2d sb)), .second, .val (.double (FP.i2d sc)), .second, .unset, .unset, .unset, .unset, .unset, .unset, .unset, .unset, .unset, .unset, .unset, .unset, .unset, .unset, .unset, .unset, .unset, .unset, .unset, .unset, .unset, .unset, .unset, .unset, .unset, .unset, .unset, .unset, .unset, .unset, .unset] [(.int ia)])) _
    refine XS.i2dS X0.here hx rfl (hb hby at_97) rfl rfl ?_
    show Steps p.tables e below (s₁.setTop (mkF m 98 #[.val (.int p1), .val (.int p2), .val (.int p3), .val (.int p4), .val (.int p5), .val (.int rA), .val (.int rB), .val (.int rC), .val (.int rU), .val (.int q), .val (.double (FP.i2d sa)), .second, .val (.double (FP.i2d sb)), .second, .val (.double (FP.i2d sc)), .second, .unset, .unset, .unset, .unset, .unset, .unset, .unset, .unset, .unset, .unset, .unset, .unset, .unset, .unset, .unset, .unset, .unset, .unset, .unset, .unset, .unset, .unset, .unset, .unset, .unset, .unset, .unset, .unset, .unset, .unset, .unset] [(.double (FP.i2d ia))])) _
    refine XS.dstore X0.here hx rfl (hb hby at_98) rfl (l' := #[.val (.int p1), .val (.int p2), .val (.int p3), .val (.int p4), .val (.int p5), .val (.int rA), .val (.int rB), .val (.int rC), .val (.int rU), .val (.int q), .val (.double (FP.i2d sa)), .second, .val (.double (FP.i2d sb)), .second, .val (.double (FP.i2d sc)), .second, .val (.double (FP.i2d ia)), .second, .unset, .unset, .unset, .unset, .unset, .unset, .unset, .unset, .unset, .unset, .unset, .unset, .unset, .unset, .unset, .unset, .unset, .unset, .unset, .unset, .unset, .unset, .unset, .unset, .unset, .unset, .unset, .unset, .unset]) rfl ?_
    show Steps p.tables e below (s₁.setTop (mkF m 100 #[.val (.int p1), .val (.int p2), .val (.int p3), .val (.int p4), .val (.int p5), .val (.int rA), .val (.int rB), .val (.int rC), .val (.int rU), .val (.int q), .val (.double (FP.i2d sa)), .second, .val (.double (FP.i2d sb)), .second, .val (.double (FP.i2d sc)), .second, .val (.double (FP.i2d ia)), .second, .unset, .unset, .unset, .unset, .unset, .unset, .unset, .unset, .unset, .unset, .unset, .unset, .unset, .unset, .unset, .unset, .unset, .unset, .unset, .unset, .unset, .unset, .unset, .unset, .unset, .unset, .unset, .unset, .unset] [])) _
    refine XS.iloadN X0.here hx rfl (hb hby at_100) rfl ?_
    show Steps p.tables e below (s₁.setTop (mkF m 101 #[.val (.int p1), .val (.int p2), .val (.int p3), .val (.int p4), .val (.int p5), .val (.int rA), .val (.int rB), .val (.int rC), .val (.int rU), .val (.int q), .val (.double (FP.i2d sa)), .second, .val (.double (FP.i2d sb)), .second, .val (.double (FP.i2d sc)), .second, .val (.double (FP.i2d ia)), .second, .unset, .unset, .unset, .unset, .unset, .unset, .unset, .unset, .unset, .unset, .unset, .unset, .unset, .unset, .unset, .unset, .unset, .unset, .unset, .unset, .unset, .unset, .unset, .unset, .unset, .unset, .unset, .unset, .unset] [(.int p3)])) _
    refine XS.sipush X0.here hx rfl (hb hby at_101) ?_
    show Steps p.tables e below (s₁.setTop (mkF m 104 #[.val (.int p1), .val (.int p2), .val (.int p3), .val (.int p4), .val (.int p5), .val (.int rA), .val (.int rB), .val (.int rC), .val (.int rU), .val (.int q), .val (.double (FP.i2d sa)), .second, .val (.double (FP.i2d sb)), .second, .val (.double (FP.i2d sc)), .second, .val (.double (FP.i2d ia)), .second, .unset, .unset, .unset, .unset, .unset, .unset, .unset, .unset, .unset, .unset, .unset, .unset, .unset, .unset, .unset, .unset, .unset, .unset, .unset, .unset, .unset, .unset, .unset, .unset, .unset, .unset, .unset, .unset, .unset] [(.int (1000 : Int32)), (.int p3)])) _
    refine iremM X0 hx rfl (hb hby at_104) rfl (by decide) ?_
    exact Steps.refl _
  obtain ⟨ib, hib⟩ : ∃ z, z = (p3 % (1000 : Int32)) := ⟨_, rfl⟩
  have r166 : Steps p.tables e below S0 (s₁.setTop (mkF m 105 #[.val (.int p1), .val (.int p2), .val (.int p3), .val (.int p4), .val (.int p5), .val (.int rA), .val (.int rB), .val (.int rC), .val (.int rU), .val (.int q), .val (.double (FP.i2d sa)), .second, .val (.double (FP.i2d sb)), .second, .val (.double (FP.i2d sc)), .second, .val (.double (FP.i2d ia)), .second, .unset, .unset, .unset, .unset, .unset, .unset, .unset, .unset, .unset, .unset, .unset, .unset, .unset, .unset, .unset, .unset, .unset, .unset, .unset, .unset, .unset, .unset, .unset, .unset, .unset, .unset, .unset, .unset, .unset] [(.int ib)])) := by rw [hib]; exact r165
  have r167 : Steps p.tables e below S0 (s₁.setTop (mkF m 113 #[.val (.int p1), .val (.int p2), .val (.int p3), .val (.int p4), .val (.int p5), .val (.int rA), .val (.int rB), .val (.int rC), .val (.int rU), .val (.int q), .val (.double (FP.i2d sa)), .second, .val (.double (FP.i2d sb)), .second, .val (.double (FP.i2d sc)), .second, .val (.double (FP.i2d ia)), .second, .val (.double (FP.i2d ib)), .second, .unset, .unset, .unset, .unset, .unset, .unset, .unset, .unset, .unset, .unset, .unset, .unset, .unset, .unset, .unset, .unset, .unset, .unset, .unset, .unset, .unset, .unset, .unset, .unset, .unset, .unset, .unset] [(.int (p4 % (1000 : Int32)))])) := by
    refine r166.trans ?_
    show Steps p.tables e below (s₁.setTop (mkF m 105 #[.val (.int p1), .val (.int p2), .val (.int p3), .val (.int p4), .val (.int p5), .val (.int rA), .val (.int rB), .val (.int rC), .val (.int rU), .val (.int q), .val (.double (FP.i2d sa)), .second, .val (.double (FP.i2d sb)), .second, .val (.double (FP.i2d sc)), .second, .val (.double (FP.i2d ia)), .second, .unset, .unset, .unset, .unset, .unset, .unset, .unset, .unset, .unset, .unset, .unset, .unset, .unset, .unset, .unset, .unset, .unset, .unset, .unset, .unset, .unset, .unset, .unset, .unset, .unset, .unset, .unset, .unset, .unset] [(.int ib)])) _
    refine XS.i2dS X0.here hx rfl (hb hby at_105) rfl rfl ?_
    show Steps p.tables e below (s₁.setTop (mkF m 106 #[.val (.int p1), .val (.int p2), .val (.int p3), .val (.int p4), .val (.int p5), .val (.int rA), .val (.int rB), .val (.int rC), .val (.int rU), .val (.int q), .val (.double (FP.i2d sa)), .second, .val (.double (FP.i2d sb)), .second, .val (.double (FP.i2d sc)), .second, .val (.double (FP.i2d ia)), .second, .unset, .unset, .unset, .unset, .unset, .unset, .unset, .unset, .unset, .unset, .unset, .unset, .unset, .unset, .unset, .unset, .unset, .unset, .unset, .unset, .unset, .unset, .unset, .unset, .unset, .unset, .unset, .unset, .unset] [(.double (FP.i2d ib))])) _
    refine XS.dstore X0.here hx rfl (hb hby at_106) rfl (l' := #[.val (.int p1), .val (.int p2), .val (.int p3), .val (.int p4), .val (.int p5), .val (.int rA), .val (.int rB), .val (.int rC), .val (.int rU), .val (.int q), .val (.double (FP.i2d sa)), .second, .val (.double (FP.i2d sb)), .second, .val (.double (FP.i2d sc)), .second, .val (.double (FP.i2d ia)), .second, .val (.double (FP.i2d ib)), .second, .unset, .unset, .unset, .unset, .unset, .unset, .unset, .unset, .unset, .unset, .unset, .unset, .unset, .unset, .unset, .unset, .unset, .unset, .unset, .unset, .unset, .unset, .unset, .unset, .unset, .unset, .unset]) rfl ?_
    show Steps p.tables e below (s₁.setTop (mkF m 108 #[.val (.int p1), .val (.int p2), .val (.int p3), .val (.int p4), .val (.int p5), .val (.int rA), .val (.int rB), .val (.int rC), .val (.int rU), .val (.int q), .val (.double (FP.i2d sa)), .second, .val (.double (FP.i2d sb)), .second, .val (.double (FP.i2d sc)), .second, .val (.double (FP.i2d ia)), .second, .val (.double (FP.i2d ib)), .second, .unset, .unset, .unset, .unset, .unset, .unset, .unset, .unset, .unset, .unset, .unset, .unset, .unset, .unset, .unset, .unset, .unset, .unset, .unset, .unset, .unset, .unset, .unset, .unset, .unset, .unset, .unset] [])) _
    refine XS.iloadN X0.here hx rfl (hb hby at_108) rfl ?_
    show Steps p.tables e below (s₁.setTop (mkF m 109 #[.val (.int p1), .val (.int p2), .val (.int p3), .val (.int p4), .val (.int p5), .val (.int rA), .val (.int rB), .val (.int rC), .val (.int rU), .val (.int q), .val (.double (FP.i2d sa)), .second, .val (.double (FP.i2d sb)), .second, .val (.double (FP.i2d sc)), .second, .val (.double (FP.i2d ia)), .second, .val (.double (FP.i2d ib)), .second, .unset, .unset, .unset, .unset, .unset, .unset, .unset, .unset, .unset, .unset, .unset, .unset, .unset, .unset, .unset, .unset, .unset, .unset, .unset, .unset, .unset, .unset, .unset, .unset, .unset, .unset, .unset] [(.int p4)])) _
    refine XS.sipush X0.here hx rfl (hb hby at_109) ?_
    show Steps p.tables e below (s₁.setTop (mkF m 112 #[.val (.int p1), .val (.int p2), .val (.int p3), .val (.int p4), .val (.int p5), .val (.int rA), .val (.int rB), .val (.int rC), .val (.int rU), .val (.int q), .val (.double (FP.i2d sa)), .second, .val (.double (FP.i2d sb)), .second, .val (.double (FP.i2d sc)), .second, .val (.double (FP.i2d ia)), .second, .val (.double (FP.i2d ib)), .second, .unset, .unset, .unset, .unset, .unset, .unset, .unset, .unset, .unset, .unset, .unset, .unset, .unset, .unset, .unset, .unset, .unset, .unset, .unset, .unset, .unset, .unset, .unset, .unset, .unset, .unset, .unset] [(.int (1000 : Int32)), (.int p4)])) _
    refine iremM X0 hx rfl (hb hby at_112) rfl (by decide) ?_
    exact Steps.refl _
  obtain ⟨ic, hic⟩ : ∃ z, z = (p4 % (1000 : Int32)) := ⟨_, rfl⟩
  have r168 : Steps p.tables e below S0 (s₁.setTop (mkF m 113 #[.val (.int p1), .val (.int p2), .val (.int p3), .val (.int p4), .val (.int p5), .val (.int rA), .val (.int rB), .val (.int rC), .val (.int rU), .val (.int q), .val (.double (FP.i2d sa)), .second, .val (.double (FP.i2d sb)), .second, .val (.double (FP.i2d sc)), .second, .val (.double (FP.i2d ia)), .second, .val (.double (FP.i2d ib)), .second, .unset, .unset, .unset, .unset, .unset, .unset, .unset, .unset, .unset, .unset, .unset, .unset, .unset, .unset, .unset, .unset, .unset, .unset, .unset, .unset, .unset, .unset, .unset, .unset, .unset, .unset, .unset] [(.int ic)])) := by rw [hic]; exact r167
  have r169 : Steps p.tables e below S0 (s₁.setTop (mkF m 122 #[.val (.int p1), .val (.int p2), .val (.int p3), .val (.int p4), .val (.int p5), .val (.int rA), .val (.int rB), .val (.int rC), .val (.int rU), .val (.int q), .val (.double (FP.i2d sa)), .second, .val (.double (FP.i2d sb)), .second, .val (.double (FP.i2d sc)), .second, .val (.double (FP.i2d ia)), .second, .val (.double (FP.i2d ib)), .second, .val (.double (FP.i2d ic)), .second, .unset, .unset, .unset, .unset, .unset, .unset, .unset, .unset, .unset, .unset, .unset, .unset, .unset, .unset, .unset, .unset, .unset, .unset, .unset, .unset, .unset, .unset, .unset, .unset, .unset] [(.int (p5 % (1000 : Int32)))])) := by
    refine r168.trans ?_
    show Steps p.tables e below (s₁.setTop (mkF m 113 #[.val (.int p1), .val (.int p2), .val (.int p3), .val (.int p4), .val (.int p5), .val (.int rA), .val (.int rB), .val (.int rC), .val (.int rU), .val (.int q), .val (.double (FP.i2d sa)), .second, .val (.double (FP.i2d sb)), .second, .val (.double (FP.i2d sc)), .second, .val (.double (FP.i2d ia)), .second, .val (.double (FP.i2d ib)), .second, .unset, .unset, .unset, .unset, .unset, .unset, .unset, .unset, .unset, .unset, .unset, .unset, .unset, .unset, .unset, .unset, .unset, .unset, .unset, .unset, .unset, .unset, .unset, .unset, .unset, .unset, .unset] [(.int ic)])) _
    refine XS.i2dS X0.here hx rfl (hb hby at_113) rfl rfl ?_
    show Steps p.tables e below (s₁.setTop (mkF m 114 #[.val (.int p1), .val (.int p2), .val (.int p3), .val (.int p4), .val (.int p5), .val (.int rA), .val (.int rB), .val (.int rC), .val (.int rU), .val (.int q), .val (.double (FP.i2d sa)), .second, .val (.double (FP.i2d sb)), .second, .val (.double (FP.i2d sc)), .second, .val (.double (FP.i2d ia)), .second, .val (.double (FP.i2d ib)), .second, .unset, .unset, .unset, .unset, .unset, .unset, .unset, .unset, .unset, .unset, .unset, .unset, .unset, .unset, .unset, .unset, .unset, .unset, .unset, .unset, .unset, .unset, .unset, .unset, .unset, .unset, .unset] [(.double (FP.i2d ic))])) _
    refine XS.dstore X0.here hx rfl (hb hby at_114) rfl (l' := #[.val (.int p1), .val (.int p2), .val (.int p3), .val (.int p4), .val (.int p5), .val (.int rA), .val (.int rB), .val (.int rC), .val (.int rU), .val (.int q), .val (.double (FP.i2d sa)), .second, .val (.double (FP.i2d sb)), .second, .val (.double (FP.i2d sc)), .second, .val (.double (FP.i2d ia)), .second, .val (.double (FP.i2d ib)), .second, .val (.double (FP.i2d ic)), .second, .unset, .unset, .unset, .unset, .unset, .unset, .unset, .unset, .unset, .unset, .unset, .unset, .unset, .unset, .unset, .unset, .unset, .unset, .unset, .unset, .unset, .unset, .unset, .unset, .unset]) rfl ?_
    show Steps p.tables e below (s₁.setTop (mkF m 116 #[.val (.int p1), .val (.int p2), .val (.int p3), .val (.int p4), .val (.int p5), .val (.int rA), .val (.int rB), .val (.int rC), .val (.int rU), .val (.int q), .val (.double (FP.i2d sa)), .second, .val (.double (FP.i2d sb)), .second, .val (.double (FP.i2d sc)), .second, .val (.double (FP.i2d ia)), .second, .val (.double (FP.i2d ib)), .second, .val (.double (FP.i2d ic)), .second, .unset, .unset, .unset, .unset, .unset, .unset, .unset, .unset, .unset, .unset, .unset, .unset, .unset, .unset, .unset, .unset, .unset, .unset, .unset, .unset, .unset, .unset, .unset, .unset, .unset] [])) _
    refine XS.iload X0.here hx rfl (hb hby at_116) rfl ?_
    show Steps p.tables e below (s₁.setTop (mkF m 118 #[.val (.int p1), .val (.int p2), .val (.int p3), .val (.int p4), .val (.int p5), .val (.int rA), .val (.int rB), .val (.int rC), .val (.int rU), .val (.int q), .val (.double (FP.i2d sa)), .second, .val (.double (FP.i2d sb)), .second, .val (.double (FP.i2d sc)), .second, .val (.double (FP.i2d ia)), .second, .val (.double (FP.i2d ib)), .second, .val (.double (FP.i2d ic)), .second, .unset, .unset, .unset, .unset, .unset, .unset, .unset, .unset, .unset, .unset, .unset, .unset, .unset, .unset, .unset, .unset, .unset, .unset, .unset, .unset, .unset, .unset, .unset, .unset, .unset] [(.int p5)])) _
    refine XS.sipush X0.here hx rfl (hb hby at_118) ?_
    show Steps p.tables e below (s₁.setTop (mkF m 121 #[.val (.int p1), .val (.int p2), .val (.int p3), .val (.int p4), .val (.int p5), .val (.int rA), .val (.int rB), .val (.int rC), .val (.int rU), .val (.int q), .val (.double (FP.i2d sa)), .second, .val (.double (FP.i2d sb)), .second, .val (.double (FP.i2d sc)), .second, .val (.double (FP.i2d ia)), .second, .val (.double (FP.i2d ib)), .second, .val (.double (FP.i2d ic)), .second, .unset, .unset, .unset, .unset, .unset, .unset, .unset, .unset, .unset, .unset, .unset, .unset, .unset, .unset, .unset, .unset, .unset, .unset, .unset, .unset, .unset, .unset, .unset, .unset, .unset] [(.int (1000 : Int32)), (.int p5)])) _
    refine iremM X0 hx rfl (hb hby at_121) rfl (by decide) ?_
    exact Steps.refl _
  obtain ⟨ie, hie⟩ : ∃ z, z = (p5 % (1000 : Int32)) := ⟨_, rfl⟩
  have r170 : Steps p.tables e below S0 (s₁.setTop (mkF m 122 #[.val (.int p1), .val (.int p2), .val (.int p3), .val (.int p4), .val (.int p5), .val (.int rA), .val (.int rB), .val (.int rC), .val (.int rU), .val (.int q), .val (.double (FP.i2d sa)), .second, .val (.double (FP.i2d sb)), .second, .val (.double (FP.i2d sc)), .second, .val (.double (FP.i2d ia)), .second, .val (.double (FP.i2d ib)), .second, .val (.double (FP.i2d ic)), .second, .unset, .unset, .unset, .unset, .unset, .unset, .unset, .unset, .unset, .unset, .unset, .unset, .unset, .unset, .unset, .unset, .unset, .unset, .unset, .unset, .unset, .unset, .unset, .unset, .unset] [(.int ie)])) := by rw [hie]; exact r169
  have hsa2 : sa.toInt = 1 ∨ sa.toInt = 2 ∨ sa.toInt = 4 ∨ sa.toInt = 8 := by rw [hsa]; exact own_pw _
  have hsb2 : sb.toInt = 1 ∨ sb.toInt = 2 ∨ sb.toInt = 4 ∨ sb.toInt = 8 := by rw [hsb]; exact own_pw _
  have hsc2 : sc.toInt = 1 ∨ sc.toInt = 2 ∨ sc.toInt = 4 ∨ sc.toInt = 8 := by rw [hsc]; exact own_pw _
  have bia : -1000 < ia.toInt ∧ ia.toInt < 1000 := by rw [hia]; exact own_rem p2
  have bib : -1000 < ib.toInt ∧ ib.toInt < 1000 := by rw [hib]; exact own_rem p3
  have bic : -1000 < ic.toInt ∧ ic.toInt < 1000 := by rw [hic]; exact own_rem p4
  have bie : -1000 < ie.toInt ∧ ie.toInt < 1000 := by rw [hie]; exact own_rem p5
  obtain ⟨PA, hPA, bPA0, bPA1⟩ := own_P hsa2 bia
  obtain ⟨PB, hPB, bPB0, bPB1⟩ := own_P hsb2 bib
  obtain ⟨PC, hPC, bPC0, bPC1⟩ := own_P hsc2 bic
  obtain ⟨XA, hXA⟩ : ∃ z : Int, z = (if rA = (0 : Int32) then (0 : Int) else PA) := ⟨_, rfl⟩
  obtain ⟨NA, hNA⟩ : ∃ z : Int, z = (if rA = (0 : Int32) then (0 : Int) else 1) := ⟨_, rfl⟩
  have bXA : 0 ≤ XA ∧ XA ≤ 8000 := by rw [hXA]; split <;> omega
  have bNA : 0 ≤ NA ∧ NA ≤ 1 := by rw [hNA]; split <;> omega
  obtain ⟨XB, hXB⟩ : ∃ z : Int, z = (if rB = (0 : Int32) then (0 : Int) else PB) := ⟨_, rfl⟩
  obtain ⟨NB, hNB⟩ : ∃ z : Int, z = (if rB = (0 : Int32) then (0 : Int) else 1) := ⟨_, rfl⟩
  have bXB : 0 ≤ XB ∧ XB ≤ 8000 := by rw [hXB]; split <;> omega
  have bNB : 0 ≤ NB ∧ NB ≤ 1 := by rw [hNB]; split <;> omega
  obtain ⟨XC, hXC⟩ : ∃ z : Int, z = (if rC = (0 : Int32) then (0 : Int) else PC) := ⟨_, rfl⟩
  obtain ⟨NC, hNC⟩ : ∃ z : Int, z = (if rC = (0 : Int32) then (0 : Int) else 1) := ⟨_, rfl⟩
  have bXC : 0 ≤ XC ∧ XC ≤ 8000 := by rw [hXC]; split <;> omega
  have bNC : 0 ≤ NC ∧ NC ≤ 1 := by rw [hNC]; split <;> omega
  have hpa : 0 < sa.toInt := by omega
  have hpb : 0 < sb.toInt := by omega
  have hpc : 0 < sc.toInt := by omega
  have r171 : Steps p.tables e below S0 (s₁.setTop (mkF m 125 #[.val (.int p1), .val (.int p2), .val (.int p3), .val (.int p4), .val (.int p5), .val (.int rA), .val (.int rB), .val (.int rC), .val (.int rU), .val (.int q), .val (.double (FP.i2d sa)), .second, .val (.double (FP.i2d sb)), .second, .val (.double (FP.i2d sc)), .second, .val (.double (FP.i2d ia)), .second, .val (.double (FP.i2d ib)), .second, .val (.double (FP.i2d ic)), .second, .val (.double (FP.i2d ie)), .second, .unset, .unset, .unset, .unset, .unset, .unset, .unset, .unset, .unset, .unset, .unset, .unset, .unset, .unset, .unset, .unset, .unset, .unset, .unset, .unset, .unset, .unset, .unset] [])) := by
    refine r170.trans ?_
    show Steps p.tables e below (s₁.setTop (mkF m 122 #[.val (.int p1), .val (.int p2), .val (.int p3), .val (.int p4), .val (.int p5), .val (.int rA), .val (.int rB), .val (.int rC), .val (.int rU), .val (.int q), .val (.double (FP.i2d sa)), .second, .val (.double (FP.i2d sb)), .second, .val (.double (FP.i2d sc)), .second, .val (.double (FP.i2d ia)), .second, .val (.double (FP.i2d ib)), .second, .val (.double (FP.i2d ic)), .second, .unset, .unset, .unset, .unset, .unset, .unset, .unset, .unset, .unset, .unset, .unset, .unset, .unset, .unset, .unset, .unset, .unset, .unset, .unset, .unset, .unset, .unset, .unset, .unset, .unset] [(.int ie)])) _
    refine XS.i2dS X0.here hx rfl (hb hby at_122) rfl rfl ?_
    show Steps p.tables e below (s₁.setTop (mkF m 123 #[.val (.int p1), .val (.int p2), .val (.int p3), .val (.int p4), .val (.int p5), .val (.int rA), .val (.int rB), .val (.int rC), .val (.int rU), .val (.int q), .val (.double (FP.i2d sa)), .second, .val (.double (FP.i2d sb)), .second, .val (.double (FP.i2d sc)), .second, .val (.double (FP.i2d ia)), .second, .val (.double (FP.i2d ib)), .second, .val (.double (FP.i2d ic)), .second, .unset, .unset, .unset, .unset, .unset, .unset, .unset, .unset, .unset, .unset, .unset, .unset, .unset, .unset, .unset, .unset, .unset, .unset, .unset, .unset, .unset, .unset, .unset, .unset, .unset] [(.double (FP.i2d ie))])) _
    refine XS.dstore X0.here hx rfl (hb hby at_123) rfl (l' := #[.val (.int p1), .val (.int p2), .val (.int p3), .val (.int p4), .val (.int p5), .val (.int rA), .val (.int rB), .val (.int rC), .val (.int rU), .val (.int q), .val (.double (FP.i2d sa)), .second, .val (.double (FP.i2d sb)), .second, .val (.double (FP.i2d sc)), .second, .val (.double (FP.i2d ia)), .second, .val (.double (FP.i2d ib)), .second, .val (.double (FP.i2d ic)), .second, .val (.double (FP.i2d ie)), .second, .unset, .unset, .unset, .unset, .unset, .unset, .unset, .unset, .unset, .unset, .unset, .unset, .unset, .unset, .unset, .unset, .unset, .unset, .unset, .unset, .unset, .unset, .unset]) rfl ?_
    exact Steps.refl _
  obtain ⟨T172, h172, X172, e172, E172, A172, D172, -, st172⟩ := newO X0 hx hZ hown (hw _ (List.mem_of_getElem? (i := 0) rfl)) (hw _ (List.mem_of_getElem? (i := 1) rfl)) (hw _ (List.mem_of_getElem? (i := 2) rfl)) e0 (g := (mkF m 125 #[.val (.int p1), .val (.int p2), .val (.int p3), .val (.int p4), .val (.int p5), .val (.int rA), .val (.int rB), .val (.int rC), .val (.int rU), .val (.int q), .val (.double (FP.i2d sa)), .second, .val (.double (FP.i2d sb)), .second, .val (.double (FP.i2d sc)), .second, .val (.double (FP.i2d ia)), .second, .val (.double (FP.i2d ib)), .second, .val (.double (FP.i2d ic)), .second, .val (.double (FP.i2d ie)), .second, .unset, .unset, .unset, .unset, .unset, .unset, .unset, .unset, .unset, .unset, .unset, .unset, .unset, .unset, .unset, .unset, .unset, .unset, .unset, .unset, .unset, .unset, .unset] [])) rfl (hb hby at_125) (by decide) (by decide)
  obtain ⟨po, g172⟩ : ∃ z, z = h0.size := ⟨_, rfl⟩
  rw [← g172] at A172 D172 st172
  have g_po : n0 ≤ po := Nat.le_trans Z0 (Nat.le_of_eq g172.symm)
  have Z172 : n0 ≤ h172.size := Nat.le_trans Z0 E172.1
  have F_po_downSum : Fld Z h172 po "com/example/pivotline/pivotline/Pseudocosts" "downSum" "[D" .null := D172 (Or.inr (hw _ (List.mem_of_getElem? (i := 11) rfl))) (ty := (.array .double)) (by decide)
  have F_po_upSum : Fld Z h172 po "com/example/pivotline/pivotline/Pseudocosts" "upSum" "[D" .null := D172 (Or.inr (hw _ (List.mem_of_getElem? (i := 13) rfl))) (ty := (.array .double)) (by decide)
  have F_po_downCount : Fld Z h172 po "com/example/pivotline/pivotline/Pseudocosts" "downCount" "[I" .null := D172 (Or.inr (hw _ (List.mem_of_getElem? (i := 16) rfl))) (ty := (.array .int)) (by decide)
  have F_po_upCount : Fld Z h172 po "com/example/pivotline/pivotline/Pseudocosts" "upCount" "[I" .null := D172 (Or.inr (hw _ (List.mem_of_getElem? (i := 18) rfl))) (ty := (.array .int)) (by decide)
  have F_po_allDownSum : Fld Z h172 po "com/example/pivotline/pivotline/Pseudocosts" "allDownSum" "D" (.double (0 : UInt64)) := D172 (Or.inl (hw _ (List.mem_of_getElem? (i := 25) rfl))) (ty := .double) (by decide)
  have F_po_allDownCount : Fld Z h172 po "com/example/pivotline/pivotline/Pseudocosts" "allDownCount" "J" (.long (0 : Int64)) := D172 (Or.inl (hw _ (List.mem_of_getElem? (i := 27) rfl))) (ty := .long) (by decide)
  have F_po_allUpSum : Fld Z h172 po "com/example/pivotline/pivotline/Pseudocosts" "allUpSum" "D" (.double (0 : UInt64)) := D172 (Or.inl (hw _ (List.mem_of_getElem? (i := 45) rfl))) (ty := .double) (by decide)
  have F_po_allUpCount : Fld Z h172 po "com/example/pivotline/pivotline/Pseudocosts" "allUpCount" "J" (.long (0 : Int64)) := D172 (Or.inl (hw _ (List.mem_of_getElem? (i := 47) rfl))) (ty := .long) (by decide)
  have r173 : Steps p.tables e below S0 (T172.setTop (mkF m 128 #[.val (.int p1), .val (.int p2), .val (.int p3), .val (.int p4), .val (.int p5), .val (.int rA), .val (.int rB), .val (.int rC), .val (.int rU), .val (.int q), .val (.double (FP.i2d sa)), .second, .val (.double (FP.i2d sb)), .second, .val (.double (FP.i2d sc)), .second, .val (.double (FP.i2d ia)), .second, .val (.double (FP.i2d ib)), .second, .val (.double (FP.i2d ic)), .second, .val (.double (FP.i2d ie)), .second, .unset, .unset, .unset, .unset, .unset, .unset, .unset, .unset, .unset, .unset, .unset, .unset, .unset, .unset, .unset, .unset, .unset, .unset, .unset, .unset, .unset, .unset, .unset] [(.ref po)])) := r171.trans (st172 _ (Steps.refl _))
  have r174 : Steps p.tables e below S0 (T172.setTop (mkF m 130 #[.val (.int p1), .val (.int p2), .val (.int p3), .val (.int p4), .val (.int p5), .val (.int rA), .val (.int rB), .val (.int rC), .val (.int rU), .val (.int q), .val (.double (FP.i2d sa)), .second, .val (.double (FP.i2d sb)), .second, .val (.double (FP.i2d sc)), .second, .val (.double (FP.i2d ia)), .second, .val (.double (FP.i2d ib)), .second, .val (.double (FP.i2d ic)), .second, .val (.double (FP.i2d ie)), .second, .unset, .unset, .unset, .unset, .unset, .unset, .unset, .unset, .unset, .unset, .unset, .unset, .unset, .unset, .unset, .unset, .unset, .unset, .unset, .unset, .unset, .unset, .unset] [(.int (2 : Int32)), (.ref po), (.ref po)])) := by
    refine r173.trans ?_
    show Steps p.tables e below (T172.setTop (mkF m 128 #[.val (.int p1), .val (.int p2), .val (.int p3), .val (.int p4), .val (.int p5), .val (.int rA), .val (.int rB), .val (.int rC), .val (.int rU), .val (.int q), .val (.double (FP.i2d sa)), .second, .val (.double (FP.i2d sb)), .second, .val (.double (FP.i2d sc)), .second, .val (.double (FP.i2d ia)), .second, .val (.double (FP.i2d ib)), .second, .val (.double (FP.i2d ic)), .second, .val (.double (FP.i2d ie)), .second, .unset, .unset, .unset, .unset, .unset, .unset, .unset, .unset, .unset, .unset, .unset, .unset, .unset, .unset, .unset, .unset, .unset, .unset, .unset, .unset, .unset, .unset, .unset] [(.ref po)])) _
    refine XS.dup X172.here hx rfl (hb hby at_128) rfl rfl ?_
    show Steps p.tables e below (T172.setTop (mkF m 129 #[.val (.int p1), .val (.int p2), .val (.int p3), .val (.int p4), .val (.int p5), .val (.int rA), .val (.int rB), .val (.int rC), .val (.int rU), .val (.int q), .val (.double (FP.i2d sa)), .second, .val (.double (FP.i2d sb)), .second, .val (.double (FP.i2d sc)), .second, .val (.double (FP.i2d ia)), .second, .val (.double (FP.i2d ib)), .second, .val (.double (FP.i2d ic)), .second, .val (.double (FP.i2d ie)), .second, .unset, .unset, .unset, .unset, .unset, .unset, .unset, .unset, .unset, .unset, .unset, .unset, .unset, .unset, .unset, .unset, .unset, .unset, .unset, .unset, .unset, .unset, .unset] [(.ref po), (.ref po)])) _
    refine XS.iconst X172.here hx rfl (hb hby at_129) ?_
    exact Steps.refl _
  obtain ⟨_, _, ⟨T175, L175, k175, n175⟩, -, X175, ⟨Lc175, hQ175, l175, y175, z175⟩, st175⟩ := X172.specialBack hx (y := (⟨"com/example/pivotline/pivotline/Pseudocosts", "<init>", "(I)V"⟩ : MethodName)) rfl hown (mvT hZ (hw _ (List.mem_of_getElem? (i := 3) rfl))) (mvT hZ (hw _ (List.mem_of_getElem? (i := 4) rfl))) (mvT hZ (hw _ (List.mem_of_getElem? (i := 5) rfl))) (by decide) (backOf (W := 1) (rmI l Z a0 hw [] po (2 : Int32) h172 n0 Z172 rfl A172 g_po F_po_downSum F_po_upSum F_po_downCount F_po_upCount F_po_allDownSum F_po_allUpSum F_po_allDownCount F_po_allUpCount) hZ (hw _ (List.mem_of_getElem? (i := 5) rfl)) (hw _ (List.mem_of_getElem? (i := 2) rfl)) (by decide) (by decide)) (g := (mkF m 130 #[.val (.int p1), .val (.int p2), .val (.int p3), .val (.int p4), .val (.int p5), .val (.int rA), .val (.int rB), .val (.int rC), .val (.int rU), .val (.int q), .val (.double (FP.i2d sa)), .second, .val (.double (FP.i2d sb)), .second, .val (.double (FP.i2d sc)), .second, .val (.double (FP.i2d ia)), .second, .val (.double (FP.i2d ib)), .second, .val (.double (FP.i2d ic)), .second, .val (.double (FP.i2d ie)), .second, .unset, .unset, .unset, .unset, .unset, .unset, .unset, .unset, .unset, .unset, .unset, .unset, .unset, .unset, .unset, .unset, .unset, .unset, .unset, .unset, .unset, .unset, .unset] [(.int (2 : Int32)), (.ref po), (.ref po)])) rfl (by rw [hml]; rfl) (Steps.refl _) (a := po) (argsL := [(.int (2 : Int32))]) (rest := [(.ref po)]) (lenOf pd_2 rfl) rfl (by show 2 * 0 + _ ≤ _; exact Nat.le_of_eq rfl) (hb hby at_130) (fun _ _ => ⟨rfl, e172, (by decide : (0 + 1) + 4 ≤ _), (by decide : (0 + 8) + 8 ≤ _)⟩)
  dsimp only [Pt.U, Pt.locs, Pt.cells, Pt.slots] at X175 l175 y175 z175 st175 hQ175
  subst l175 y175 z175
  obtain ⟨rfl, Nq175, a1, a2, a3, a4, hPS⟩ := hQ175
  have N175 := Fr.app N0 Nq175
  have r176 : Steps p.tables e below S0 (T175.setTop (mkF m 133 #[.val (.int p1), .val (.int p2), .val (.int p3), .val (.int p4), .val (.int p5), .val (.int rA), .val (.int rB), .val (.int rC), .val (.int rU), .val (.int q), .val (.double (FP.i2d sa)), .second, .val (.double (FP.i2d sb)), .second, .val (.double (FP.i2d sc)), .second, .val (.double (FP.i2d ia)), .second, .val (.double (FP.i2d ib)), .second, .val (.double (FP.i2d ic)), .second, .val (.double (FP.i2d ie)), .second, .unset, .unset, .unset, .unset, .unset, .unset, .unset, .unset, .unset, .unset, .unset, .unset, .unset, .unset, .unset, .unset, .unset, .unset, .unset, .unset, .unset, .unset, .unset] [(.ref po)])) := r174.trans st175
  have Zs := hPS.sz
  have t0 : (0 : Int32).toNatClampNeg = 0 := by decide
  have t1 : (1 : Int32).toNatClampNeg = 1 := by decide
  have oz : ∀ i, own_z i = 0 := fun _ => rfl
  have oz0 := oz 0
  have oz1 := oz 1
  have ozq := oz q.toNatClampNeg
  have yE1 : Dy 1 0 FP.dconst1 := dy_one
  have bPE : ∃ PE : Int, max ie.toInt 0 * 8 = PE * 1 ∧ 0 ≤ PE ∧ PE ≤ 8000 := ⟨max ie.toInt 0 * 8, by omega, by omega, by omega⟩
  obtain ⟨PE, hPE, bPE0, bPE1⟩ := bPE
  have r177 : Steps p.tables e below S0 (T175.setTop (mkF m 137 #[.val (.int p1), .val (.int p2), .val (.int p3), .val (.int p4), .val (.int p5), .val (.int rA), .val (.int rB), .val (.int rC), .val (.int rU), .val (.int q), .val (.double (FP.i2d sa)), .second, .val (.double (FP.i2d sb)), .second, .val (.double (FP.i2d sc)), .second, .val (.double (FP.i2d ia)), .second, .val (.double (FP.i2d ib)), .second, .val (.double (FP.i2d ic)), .second, .val (.double (FP.i2d ie)), .second, .val (.ref po), .unset, .unset, .unset, .unset, .unset, .unset, .unset, .unset, .unset, .unset, .unset, .unset, .unset, .unset, .unset, .unset, .unset, .unset, .unset, .unset, .unset, .unset] [(.int rU)])) := by
    refine r176.trans ?_
    show Steps p.tables e below (T175.setTop (mkF m 133 #[.val (.int p1), .val (.int p2), .val (.int p3), .val (.int p4), .val (.int p5), .val (.int rA), .val (.int rB), .val (.int rC), .val (.int rU), .val (.int q), .val (.double (FP.i2d sa)), .second, .val (.double (FP.i2d sb)), .second, .val (.double (FP.i2d sc)), .second, .val (.double (FP.i2d ia)), .second, .val (.double (FP.i2d ib)), .second, .val (.double (FP.i2d ic)), .second, .val (.double (FP.i2d ie)), .second, .unset, .unset, .unset, .unset, .unset, .unset, .unset, .unset, .unset, .unset, .unset, .unset, .unset, .unset, .unset, .unset, .unset, .unset, .unset, .unset, .unset, .unset, .unset] [(.ref po)])) _
    refine XS.astore X175.here hx rfl (hb hby at_133) rfl rfl (l' := #[.val (.int p1), .val (.int p2), .val (.int p3), .val (.int p4), .val (.int p5), .val (.int rA), .val (.int rB), .val (.int rC), .val (.int rU), .val (.int q), .val (.double (FP.i2d sa)), .second, .val (.double (FP.i2d sb)), .second, .val (.double (FP.i2d sc)), .second, .val (.double (FP.i2d ia)), .second, .val (.double (FP.i2d ib)), .second, .val (.double (FP.i2d ic)), .second, .val (.double (FP.i2d ie)), .second, .val (.ref po), .unset, .unset, .unset, .unset, .unset, .unset, .unset, .unset, .unset, .unset, .unset, .unset, .unset, .unset, .unset, .unset, .unset, .unset, .unset, .unset, .unset, .unset]) rfl ?_
    show Steps p.tables e below (T175.setTop (mkF m 135 #[.val (.int p1), .val (.int p2), .val (.int p3), .val (.int p4), .val (.int p5), .val (.int rA), .val (.int rB), .val (.int rC), .val (.int rU), .val (.int q), .val (.double (FP.i2d sa)), .second, .val (.double (FP.i2d sb)), .second, .val (.double (FP.i2d sc)), .second, .val (.double (FP.i2d ia)), .second, .val (.double (FP.i2d ib)), .second, .val (.double (FP.i2d ic)), .second, .val (.double (FP.i2d ie)), .second, .val (.ref po), .unset, .unset, .unset, .unset, .unset, .unset, .unset, .unset, .unset, .unset, .unset, .unset, .unset, .unset, .unset, .unset, .unset, .unset, .unset, .unset, .unset, .unset] [])) _
    refine XS.iload X175.here hx rfl (hb hby at_135) rfl ?_
    exact Steps.refl _
  obtain ⟨TM1, LM1, SU1, CU1, AU1, NU1, XM1, NM1, hPS1, hrel1, rM1⟩ : ∃ (T' : State) (L' : List Loc) (SU1 CU1 : Nat → Int) (AU1 NU1 : Int), Stand p l e room_1 s m #[(.int p1), (.int p2), (.int p3), (.int p4), (.int p5)] below meth c T' L' ((0 + 1) + 4) ((0 + 8) + 8) ∧ Fr n0 L' ∧ PS Z T'.heap n0 po a1 a2 a3 a4 own_z SU1 own_z CU1 (0 : Int) AU1 (0 : Int) NU1 ∧ ((∀ i : Nat, i < 2 → (SU1 i).natAbs ≤ (own_z i).natAbs + 8000 ∧ (CU1 i).natAbs ≤ (own_z i).natAbs + 1) ∧ AU1.natAbs ≤ ((0 : Int) : Int).natAbs + 8000 ∧ NU1.natAbs ≤ ((0 : Int) : Int).natAbs + 1) ∧ Steps p.tables e below S0 (T'.setTop (mkF m 151 #[.val (.int p1), .val (.int p2), .val (.int p3), .val (.int p4), .val (.int p5), .val (.int rA), .val (.int rB), .val (.int rC), .val (.int rU), .val (.int q), .val (.double (FP.i2d sa)), .second, .val (.double (FP.i2d sb)), .second, .val (.double (FP.i2d sc)), .second, .val (.double (FP.i2d ia)), .second, .val (.double (FP.i2d ib)), .second, .val (.double (FP.i2d ic)), .second, .val (.double (FP.i2d ie)), .second, .val (.ref po), .unset, .unset, .unset, .unset, .unset, .unset, .unset, .unset, .unset, .unset, .unset, .unset, .unset, .unset, .unset, .unset, .unset, .unset, .unset, .unset, .unset, .unset] [])) := by
    by_cases hr : rU = (0 : Int32)
    · skip
      have r178 : Steps p.tables e below S0 (T175.setTop (mkF m 151 #[.val (.int p1), .val (.int p2), .val (.int p3), .val (.int p4), .val (.int p5), .val (.int rA), .val (.int rB), .val (.int rC), .val (.int rU), .val (.int q), .val (.double (FP.i2d sa)), .second, .val (.double (FP.i2d sb)), .second, .val (.double (FP.i2d sc)), .second, .val (.double (FP.i2d ia)), .second, .val (.double (FP.i2d ib)), .second, .val (.double (FP.i2d ic)), .second, .val (.double (FP.i2d ie)), .second, .val (.ref po), .unset, .unset, .unset, .unset, .unset, .unset, .unset, .unset, .unset, .unset, .unset, .unset, .unset, .unset, .unset, .unset, .unset, .unset, .unset, .unset, .unset, .unset] [])) := by
        refine r177.trans ?_
        show Steps p.tables e below (T175.setTop (mkF m 137 #[.val (.int p1), .val (.int p2), .val (.int p3), .val (.int p4), .val (.int p5), .val (.int rA), .val (.int rB), .val (.int rC), .val (.int rU), .val (.int q), .val (.double (FP.i2d sa)), .second, .val (.double (FP.i2d sb)), .second, .val (.double (FP.i2d sc)), .second, .val (.double (FP.i2d ia)), .second, .val (.double (FP.i2d ib)), .second, .val (.double (FP.i2d ic)), .second, .val (.double (FP.i2d ie)), .second, .val (.ref po), .unset, .unset, .unset, .unset, .unset, .unset, .unset, .unset, .unset, .unset, .unset, .unset, .unset, .unset, .unset, .unset, .unset, .unset, .unset, .unset, .unset, .unset] [(.int rU)])) _
        refine XS.ifYes X175.here hx rfl (pc0 := 137) (pc' := 151) rfl (hb hby at_137) rfl ((if0 _ _).trans (teq hr).1) (by decide) (by decide) ?_
        exact Steps.refl _
      exact ⟨_, _, own_z, own_z, (0 : Int), (0 : Int), X175, N175, hPS, ⟨fun i _ => by omega, by omega, by omega⟩, r178⟩
    · skip
      skip
      have r179 : Steps p.tables e below S0 (T175.setTop (mkF m 148 #[.val (.int p1), .val (.int p2), .val (.int p3), .val (.int p4), .val (.int p5), .val (.int rA), .val (.int rB), .val (.int rC), .val (.int rU), .val (.int q), .val (.double (FP.i2d sa)), .second, .val (.double (FP.i2d sb)), .second, .val (.double (FP.i2d sc)), .second, .val (.double (FP.i2d ia)), .second, .val (.double (FP.i2d ib)), .second, .val (.double (FP.i2d ic)), .second, .val (.double (FP.i2d ie)), .second, .val (.ref po), .unset, .unset, .unset, .unset, .unset, .unset, .unset, .unset, .unset, .unset, .unset, .unset, .unset, .unset, .unset, .unset, .unset, .unset, .unset, .unset, .unset, .unset] [(.double (FP.i2d ie)), (.double FP.dconst1), (.int (1 : Int32)), (.int q), (.ref po)])) := by
        refine r177.trans ?_
        show Steps p.tables e below (T175.setTop (mkF m 137 #[.val (.int p1), .val (.int p2), .val (.int p3), .val (.int p4), .val (.int p5), .val (.int rA), .val (.int rB), .val (.int rC), .val (.int rU), .val (.int q), .val (.double (FP.i2d sa)), .second, .val (.double (FP.i2d sb)), .second, .val (.double (FP.i2d sc)), .second, .val (.double (FP.i2d ia)), .second, .val (.double (FP.i2d ib)), .second, .val (.double (FP.i2d ic)), .second, .val (.double (FP.i2d ie)), .second, .val (.ref po), .unset, .unset, .unset, .unset, .unset, .unset, .unset, .unset, .unset, .unset, .unset, .unset, .unset, .unset, .unset, .unset, .unset, .unset, .unset, .unset, .unset, .unset] [(.int rU)])) _
        refine XS.ifNo X175.here hx rfl (hb hby at_137) rfl ((if0 _ _).trans (feq hr).1) ?_
        show Steps p.tables e below (T175.setTop (mkF m 140 #[.val (.int p1), .val (.int p2), .val (.int p3), .val (.int p4), .val (.int p5), .val (.int rA), .val (.int rB), .val (.int rC), .val (.int rU), .val (.int q), .val (.double (FP.i2d sa)), .second, .val (.double (FP.i2d sb)), .second, .val (.double (FP.i2d sc)), .second, .val (.double (FP.i2d ia)), .second, .val (.double (FP.i2d ib)), .second, .val (.double (FP.i2d ic)), .second, .val (.double (FP.i2d ie)), .second, .val (.ref po), .unset, .unset, .unset, .unset, .unset, .unset, .unset, .unset, .unset, .unset, .unset, .unset, .unset, .unset, .unset, .unset, .unset, .unset, .unset, .unset, .unset, .unset] [])) _
        refine XS.aload X175.here hx rfl (hb hby at_140) rfl rfl ?_
        show Steps p.tables e below (T175.setTop (mkF m 142 #[.val (.int p1), .val (.int p2), .val (.int p3), .val (.int p4), .val (.int p5), .val (.int rA), .val (.int rB), .val (.int rC), .val (.int rU), .val (.int q), .val (.double (FP.i2d sa)), .second, .val (.double (FP.i2d sb)), .second, .val (.double (FP.i2d sc)), .second, .val (.double (FP.i2d ia)), .second, .val (.double (FP.i2d ib)), .second, .val (.double (FP.i2d ic)), .second, .val (.double (FP.i2d ie)), .second, .val (.ref po), .unset, .unset, .unset, .unset, .unset, .unset, .unset, .unset, .unset, .unset, .unset, .unset, .unset, .unset, .unset, .unset, .unset, .unset, .unset, .unset, .unset, .unset] [(.ref po)])) _
        refine XS.iload X175.here hx rfl (hb hby at_142) rfl ?_
        show Steps p.tables e below (T175.setTop (mkF m 144 #[.val (.int p1), .val (.int p2), .val (.int p3), .val (.int p4), .val (.int p5), .val (.int rA), .val (.int rB), .val (.int rC), .val (.int rU), .val (.int q), .val (.double (FP.i2d sa)), .second, .val (.double (FP.i2d sb)), .second, .val (.double (FP.i2d sc)), .second, .val (.double (FP.i2d ia)), .second, .val (.double (FP.i2d ib)), .second, .val (.double (FP.i2d ic)), .second, .val (.double (FP.i2d ie)), .second, .val (.ref po), .unset, .unset, .unset, .unset, .unset, .unset, .unset, .unset, .unset, .unset, .unset, .unset, .unset, .unset, .unset, .unset, .unset, .unset, .unset, .unset, .unset, .unset] [(.int q), (.ref po)])) _
        refine XS.iconst X175.here hx rfl (hb hby at_144) ?_
        show Steps p.tables e below (T175.setTop (mkF m 145 #[.val (.int p1), .val (.int p2), .val (.int p3), .val (.int p4), .val (.int p5), .val (.int rA), .val (.int rB), .val (.int rC), .val (.int rU), .val (.int q), .val (.double (FP.i2d sa)), .second, .val (.double (FP.i2d sb)), .second, .val (.double (FP.i2d sc)), .second, .val (.double (FP.i2d ia)), .second, .val (.double (FP.i2d ib)), .second, .val (.double (FP.i2d ic)), .second, .val (.double (FP.i2d ie)), .second, .val (.ref po), .unset, .unset, .unset, .unset, .unset, .unset, .unset, .unset, .unset, .unset, .unset, .unset, .unset, .unset, .unset, .unset, .unset, .unset, .unset, .unset, .unset, .unset] [(.int (1 : Int32)), (.int q), (.ref po)])) _
        refine XS.dconst1 X175.here hx rfl (hb hby at_145) rfl ?_
        show Steps p.tables e below (T175.setTop (mkF m 146 #[.val (.int p1), .val (.int p2), .val (.int p3), .val (.int p4), .val (.int p5), .val (.int rA), .val (.int rB), .val (.int rC), .val (.int rU), .val (.int q), .val (.double (FP.i2d sa)), .second, .val (.double (FP.i2d sb)), .second, .val (.double (FP.i2d sc)), .second, .val (.double (FP.i2d ia)), .second, .val (.double (FP.i2d ib)), .second, .val (.double (FP.i2d ic)), .second, .val (.double (FP.i2d ie)), .second, .val (.ref po), .unset, .unset, .unset, .unset, .unset, .unset, .unset, .unset, .unset, .unset, .unset, .unset, .unset, .unset, .unset, .unset, .unset, .unset, .unset, .unset, .unset, .unset] [(.double FP.dconst1), (.int (1 : Int32)), (.int q), (.ref po)])) _
        refine XS.dload X175.here hx rfl (hb hby at_146) rfl ?_
        exact Steps.refl _
      obtain ⟨cq180, kq180, q180a, q180b, q180c⟩ := isOf hZ rfl hPS.exa
      obtain ⟨_, _, ⟨T180, L180, k180, n180⟩, -, X180, ⟨Lc180, hQ180, l180, y180, z180⟩, st180⟩ := X175.virtualBack hx (y := (⟨"com/example/pivotline/pivotline/Pseudocosts", "record", "(IZDD)V"⟩ : MethodName)) (z := (⟨"com/example/pivotline/pivotline/Pseudocosts", "record", "(IZDD)V"⟩ : MethodName)) hown (mvT hZ (hw _ (List.mem_of_getElem? (i := 35) rfl))) (mvT hZ (hw _ (List.mem_of_getElem? (i := 36) rfl))) (notFace_of_selects (args := #[]) (mvT hZ (hw _ (List.mem_of_getElem? (i := 38) rfl)))) (mvT hZ (hw _ (List.mem_of_getElem? (i := 38) rfl))) (mvT hZ (hw _ (List.mem_of_getElem? (i := 37) rfl))) (by decide) (backOf (W := 0) (rmRu l Z a0 hw [] po q (1 : Int32) FP.dconst1 (FP.i2d ie) a1 a2 a3 a4 own_z own_z own_z own_z (0 : Int) (0 : Int) (0 : Int) (0 : Int) ie.toInt 1 PE T175.heap n0 Zs hPS hq2 (by decide) yE1 (Dy.i2d ie) (by decide) hPE (by omega) (by skip; omega) (by omega) (by skip; omega) (by omega)) hZ (hw _ (List.mem_of_getElem? (i := 39) rfl)) (hw _ (List.mem_of_getElem? (i := 2) rfl)) (by decide) (by decide)) q180a q180c (g := (mkF m 148 #[.val (.int p1), .val (.int p2), .val (.int p3), .val (.int p4), .val (.int p5), .val (.int rA), .val (.int rB), .val (.int rC), .val (.int rU), .val (.int q), .val (.double (FP.i2d sa)), .second, .val (.double (FP.i2d sb)), .second, .val (.double (FP.i2d sc)), .second, .val (.double (FP.i2d ia)), .second, .val (.double (FP.i2d ib)), .second, .val (.double (FP.i2d ic)), .second, .val (.double (FP.i2d ie)), .second, .val (.ref po), .unset, .unset, .unset, .unset, .unset, .unset, .unset, .unset, .unset, .unset, .unset, .unset, .unset, .unset, .unset, .unset, .unset, .unset, .unset, .unset, .unset, .unset] [(.double (FP.i2d ie)), (.double FP.dconst1), (.int (1 : Int32)), (.int q), (.ref po)])) rfl (by rw [hml]; rfl) (Steps.refl _) (argsL := [(.int q), (.int (1 : Int32)), (.double FP.dconst1), (.double (FP.i2d ie))]) (rest := []) (lenOf pd_3 rfl) rfl (by show 2 * 0 + _ ≤ _; exact Nat.le_of_eq rfl) (hb hby at_148) (fun _ _ => ⟨rfl, rfl, (by decide : ((0 + 1) + 4) + 0 ≤ _), (by decide : ((0 + 8) + 8) + 0 ≤ _)⟩)
      dsimp only [Pt.U, Pt.locs, Pt.cells, Pt.slots] at X180 l180 y180 z180 st180 hQ180
      subst l180 y180 z180
      obtain ⟨rfl, Nq180, Kc180, hPSn⟩ := hQ180
      have N180 := Fr.app N175 Nq180
      have r181 : Steps p.tables e below S0 (T180.setTop (mkF m 151 #[.val (.int p1), .val (.int p2), .val (.int p3), .val (.int p4), .val (.int p5), .val (.int rA), .val (.int rB), .val (.int rC), .val (.int rU), .val (.int q), .val (.double (FP.i2d sa)), .second, .val (.double (FP.i2d sb)), .second, .val (.double (FP.i2d sc)), .second, .val (.double (FP.i2d ia)), .second, .val (.double (FP.i2d ib)), .second, .val (.double (FP.i2d ic)), .second, .val (.double (FP.i2d ie)), .second, .val (.ref po), .unset, .unset, .unset, .unset, .unset, .unset, .unset, .unset, .unset, .unset, .unset, .unset, .unset, .unset, .unset, .unset, .unset, .unset, .unset, .unset, .unset, .unset] [])) := r179.trans st180
      exact ⟨_, _, _, _, _, _, X180, N180, hPSn, ⟨fun i _ => own_ub _ _ _ PE i ⟨bPE0, bPE1⟩, by omega, by omega⟩, r181⟩
  obtain ⟨u1, u2, u3⟩ := hrel1
  have u1q : (SU1 q.toNatClampNeg).natAbs ≤ 8000 ∧ (CU1 q.toNatClampNeg).natAbs ≤ 1 := u1 q.toNatClampNeg hq3
  have u1a : (SU1 ((1 : Int32) - q).toNatClampNeg).natAbs ≤ 8000 ∧ (CU1 ((1 : Int32) - q).toNatClampNeg).natAbs ≤ 1 := u1 _ (by rcases hq2 with z | z <;> rw [z] <;> decide)
  have u2' : AU1.natAbs ≤ 8000 := u2
  have u3' : NU1.natAbs ≤ 1 := u3
  have r182 : Steps p.tables e below S0 (TM1.setTop (mkF m 153 #[.val (.int p1), .val (.int p2), .val (.int p3), .val (.int p4), .val (.int p5), .val (.int rA), .val (.int rB), .val (.int rC), .val (.int rU), .val (.int q), .val (.double (FP.i2d sa)), .second, .val (.double (FP.i2d sb)), .second, .val (.double (FP.i2d sc)), .second, .val (.double (FP.i2d ia)), .second, .val (.double (FP.i2d ib)), .second, .val (.double (FP.i2d ic)), .second, .val (.double (FP.i2d ie)), .second, .val (.ref po), .unset, .unset, .unset, .unset, .unset, .unset, .unset, .unset, .unset, .unset, .unset, .unset, .unset, .unset, .unset, .unset, .unset, .unset, .unset, .unset, .unset, .unset] [(.int rA)])) := by
    refine rM1.trans ?_
    show Steps p.tables e below (TM1.setTop (mkF m 151 #[.val (.int p1), .val (.int p2), .val (.int p3), .val (.int p4), .val (.int p5), .val (.int rA), .val (.int rB), .val (.int rC), .val (.int rU), .val (.int q), .val (.double (FP.i2d sa)), .second, .val (.double (FP.i2d sb)), .second, .val (.double (FP.i2d sc)), .second, .val (.double (FP.i2d ia)), .second, .val (.double (FP.i2d ib)), .second, .val (.double (FP.i2d ic)), .second, .val (.double (FP.i2d ie)), .second, .val (.ref po), .unset, .unset, .unset, .unset, .unset, .unset, .unset, .unset, .unset, .unset, .unset, .unset, .unset, .unset, .unset, .unset, .unset, .unset, .unset, .unset, .unset, .unset] [])) _
    refine XS.iload XM1.here hx rfl (hb hby at_151) rfl ?_
    exact Steps.refl _
  obtain ⟨TM2, LM2, SD2, CD2, AD2, ND2, XM2, NM2, hPS2, hrel2, rM2⟩ : ∃ (T' : State) (L' : List Loc) (SD2 CD2 : Nat → Int) (AD2 ND2 : Int), Stand p l e room_1 s m #[(.int p1), (.int p2), (.int p3), (.int p4), (.int p5)] below meth c T' L' ((0 + 1) + 4) ((0 + 8) + 8) ∧ Fr n0 L' ∧ PS Z T'.heap n0 po a1 a2 a3 a4 SD2 SU1 CD2 CU1 AD2 AU1 ND2 NU1 ∧ (SD2 0 = own_z 0 + XA ∧ SD2 1 = own_z 1 ∧ CD2 0 = own_z 0 + NA ∧ CD2 1 = own_z 1 ∧ AD2 = (0 : Int) + XA ∧ ND2 = (0 : Int) + NA) ∧ Steps p.tables e below S0 (T'.setTop (mkF m 167 #[.val (.int p1), .val (.int p2), .val (.int p3), .val (.int p4), .val (.int p5), .val (.int rA), .val (.int rB), .val (.int rC), .val (.int rU), .val (.int q), .val (.double (FP.i2d sa)), .second, .val (.double (FP.i2d sb)), .second, .val (.double (FP.i2d sc)), .second, .val (.double (FP.i2d ia)), .second, .val (.double (FP.i2d ib)), .second, .val (.double (FP.i2d ic)), .second, .val (.double (FP.i2d ie)), .second, .val (.ref po), .unset, .unset, .unset, .unset, .unset, .unset, .unset, .unset, .unset, .unset, .unset, .unset, .unset, .unset, .unset, .unset, .unset, .unset, .unset, .unset, .unset, .unset] [])) := by
    by_cases hr : rA = (0 : Int32)
    · skip
      have r183 : Steps p.tables e below S0 (TM1.setTop (mkF m 167 #[.val (.int p1), .val (.int p2), .val (.int p3), .val (.int p4), .val (.int p5), .val (.int rA), .val (.int rB), .val (.int rC), .val (.int rU), .val (.int q), .val (.double (FP.i2d sa)), .second, .val (.double (FP.i2d sb)), .second, .val (.double (FP.i2d sc)), .second, .val (.double (FP.i2d ia)), .second, .val (.double (FP.i2d ib)), .second, .val (.double (FP.i2d ic)), .second, .val (.double (FP.i2d ie)), .second, .val (.ref po), .unset, .unset, .unset, .unset, .unset, .unset, .unset, .unset, .unset, .unset, .unset, .unset, .unset, .unset, .unset, .unset, .unset, .unset, .unset, .unset, .unset, .unset] [])) := by
        refine r182.trans ?_
        show Steps p.tables e below (TM1.setTop (mkF m 153 #[.val (.int p1), .val (.int p2), .val (.int p3), .val (.int p4), .val (.int p5), .val (.int rA), .val (.int rB), .val (.int rC), .val (.int rU), .val (.int q), .val (.double (FP.i2d sa)), .second, .val (.double (FP.i2d sb)), .second, .val (.double (FP.i2d sc)), .second, .val (.double (FP.i2d ia)), .second, .val (.double (FP.i2d ib)), .second, .val (.double (FP.i2d ic)), .second, .val (.double (FP.i2d ie)), .second, .val (.ref po), .unset, .unset, .unset, .unset, .unset, .unset, .unset, .unset, .unset, .unset, .unset, .unset, .unset, .unset, .unset, .unset, .unset, .unset, .unset, .unset, .unset, .unset] [(.int rA)])) _
        refine XS.ifYes XM1.here hx rfl (pc0 := 153) (pc' := 167) rfl (hb hby at_153) rfl ((if0 _ _).trans (teq hr).1) (by decide) (by decide) ?_
        exact Steps.refl _
      have z1 : XA = 0 := by rw [hXA, if_pos hr]
      have z2 : NA = 0 := by rw [hNA, if_pos hr]
      exact ⟨_, _, own_z, own_z, (0 : Int), (0 : Int), XM1, NM1, hPS1, by rw [z1, z2]; simp, r183⟩
    · skip
      skip
      have r184 : Steps p.tables e below S0 (TM1.setTop (mkF m 164 #[.val (.int p1), .val (.int p2), .val (.int p3), .val (.int p4), .val (.int p5), .val (.int rA), .val (.int rB), .val (.int rC), .val (.int rU), .val (.int q), .val (.double (FP.i2d sa)), .second, .val (.double (FP.i2d sb)), .second, .val (.double (FP.i2d sc)), .second, .val (.double (FP.i2d ia)), .second, .val (.double (FP.i2d ib)), .second, .val (.double (FP.i2d ic)), .second, .val (.double (FP.i2d ie)), .second, .val (.ref po), .unset, .unset, .unset, .unset, .unset, .unset, .unset, .unset, .unset, .unset, .unset, .unset, .unset, .unset, .unset, .unset, .unset, .unset, .unset, .unset, .unset, .unset] [(.double (FP.i2d ia)), (.double (FP.i2d sa)), (.int (0 : Int32)), (.int (0 : Int32)), (.ref po)])) := by
        refine r182.trans ?_
        show Steps p.tables e below (TM1.setTop (mkF m 153 #[.val (.int p1), .val (.int p2), .val (.int p3), .val (.int p4), .val (.int p5), .val (.int rA), .val (.int rB), .val (.int rC), .val (.int rU), .val (.int q), .val (.double (FP.i2d sa)), .second, .val (.double (FP.i2d sb)), .second, .val (.double (FP.i2d sc)), .second, .val (.double (FP.i2d ia)), .second, .val (.double (FP.i2d ib)), .second, .val (.double (FP.i2d ic)), .second, .val (.double (FP.i2d ie)), .second, .val (.ref po), .unset, .unset, .unset, .unset, .unset, .unset, .unset, .unset, .unset, .unset, .unset, .unset, .unset, .unset, .unset, .unset, .unset, .unset, .unset, .unset, .unset, .unset] [(.int rA)])) _
        refine XS.ifNo XM1.here hx rfl (hb hby at_153) rfl ((if0 _ _).trans (feq hr).1) ?_
        show Steps p.tables e below (TM1.setTop (mkF m 156 #[.val (.int p1), .val (.int p2), .val (.int p3), .val (.int p4), .val (.int p5), .val (.int rA), .val (.int rB), .val (.int rC), .val (.int rU), .val (.int q), .val (.double (FP.i2d sa)), .second, .val (.double (FP.i2d sb)), .second, .val (.double (FP.i2d sc)), .second, .val (.double (FP.i2d ia)), .second, .val (.double (FP.i2d ib)), .second, .val (.double (FP.i2d ic)), .second, .val (.double (FP.i2d ie)), .second, .val (.ref po), .unset, .unset, .unset, .unset, .unset, .unset, .unset, .unset, .unset, .unset, .unset, .unset, .unset, .unset, .unset, .unset, .unset, .unset, .unset, .unset, .unset, .unset] [])) _
        refine XS.aload XM1.here hx rfl (hb hby at_156) rfl rfl ?_
        show Steps p.tables e below (TM1.setTop (mkF m 158 #[.val (.int p1), .val (.int p2), .val (.int p3), .val (.int p4), .val (.int p5), .val (.int rA), .val (.int rB), .val (.int rC), .val (.int rU), .val (.int q), .val (.double (FP.i2d sa)), .second, .val (.double (FP.i2d sb)), .second, .val (.double (FP.i2d sc)), .second, .val (.double (FP.i2d ia)), .second, .val (.double (FP.i2d ib)), .second, .val (.double (FP.i2d ic)), .second, .val (.double (FP.i2d ie)), .second, .val (.ref po), .unset, .unset, .unset, .unset, .unset, .unset, .unset, .unset, .unset, .unset, .unset, .unset, .unset, .unset, .unset, .unset, .unset, .unset, .unset, .unset, .unset, .unset] [(.ref po)])) _
        refine XS.iconst XM1.here hx rfl (hb hby at_158) ?_
        show Steps p.tables e below (TM1.setTop (mkF m 159 #[.val (.int p1), .val (.int p2), .val (.int p3), .val (.int p4), .val (.int p5), .val (.int rA), .val (.int rB), .val (.int rC), .val (.int rU), .val (.int q), .val (.double (FP.i2d sa)), .second, .val (.double (FP.i2d sb)), .second, .val (.double (FP.i2d sc)), .second, .val (.double (FP.i2d ia)), .second, .val (.double (FP.i2d ib)), .second, .val (.double (FP.i2d ic)), .second, .val (.double (FP.i2d ie)), .second, .val (.ref po), .unset, .unset, .unset, .unset, .unset, .unset, .unset, .unset, .unset, .unset, .unset, .unset, .unset, .unset, .unset, .unset, .unset, .unset, .unset, .unset, .unset, .unset] [(.int (0 : Int32)), (.ref po)])) _
        refine XS.iconst XM1.here hx rfl (hb hby at_159) ?_
        show Steps p.tables e below (TM1.setTop (mkF m 160 #[.val (.int p1), .val (.int p2), .val (.int p3), .val (.int p4), .val (.int p5), .val (.int rA), .val (.int rB), .val (.int rC), .val (.int rU), .val (.int q), .val (.double (FP.i2d sa)), .second, .val (.double (FP.i2d sb)), .second, .val (.double (FP.i2d sc)), .second, .val (.double (FP.i2d ia)), .second, .val (.double (FP.i2d ib)), .second, .val (.double (FP.i2d ic)), .second, .val (.double (FP.i2d ie)), .second, .val (.ref po), .unset, .unset, .unset, .unset, .unset, .unset, .unset, .unset, .unset, .unset, .unset, .unset, .unset, .unset, .unset, .unset, .unset, .unset, .unset, .unset, .unset, .unset] [(.int (0 : Int32)), (.int (0 : Int32)), (.ref po)])) _
        refine XS.dload XM1.here hx rfl (hb hby at_160) rfl ?_
        show Steps p.tables e below (TM1.setTop (mkF m 162 #[.val (.int p1), .val (.int p2), .val (.int p3), .val (.int p4), .val (.int p5), .val (.int rA), .val (.int rB), .val (.int rC), .val (.int rU), .val (.int q), .val (.double (FP.i2d sa)), .second, .val (.double (FP.i2d sb)), .second, .val (.double (FP.i2d sc)), .second, .val (.double (FP.i2d ia)), .second, .val (.double (FP.i2d ib)), .second, .val (.double (FP.i2d ic)), .second, .val (.double (FP.i2d ie)), .second, .val (.ref po), .unset, .unset, .unset, .unset, .unset, .unset, .unset, .unset, .unset, .unset, .unset, .unset, .unset, .unset, .unset, .unset, .unset, .unset, .unset, .unset, .unset, .unset] [(.double (FP.i2d sa)), (.int (0 : Int32)), (.int (0 : Int32)), (.ref po)])) _
        refine XS.dload XM1.here hx rfl (hb hby at_162) rfl ?_
        exact Steps.refl _
      obtain ⟨cq185, kq185, q185a, q185b, q185c⟩ := isOf hZ rfl hPS1.exa
      obtain ⟨_, _, ⟨T185, L185, k185, n185⟩, -, X185, ⟨Lc185, hQ185, l185, y185, z185⟩, st185⟩ := XM1.virtualBack hx (y := (⟨"com/example/pivotline/pivotline/Pseudocosts", "record", "(IZDD)V"⟩ : MethodName)) (z := (⟨"com/example/pivotline/pivotline/Pseudocosts", "record", "(IZDD)V"⟩ : MethodName)) hown (mvT hZ (hw _ (List.mem_of_getElem? (i := 35) rfl))) (mvT hZ (hw _ (List.mem_of_getElem? (i := 36) rfl))) (notFace_of_selects (args := #[]) (mvT hZ (hw _ (List.mem_of_getElem? (i := 38) rfl)))) (mvT hZ (hw _ (List.mem_of_getElem? (i := 38) rfl))) (mvT hZ (hw _ (List.mem_of_getElem? (i := 37) rfl))) (by decide) (backOf (W := 0) (rmRd l Z a0 hw [] po (0 : Int32) (0 : Int32) (FP.i2d sa) (FP.i2d ia) a1 a2 a3 a4 own_z SU1 own_z CU1 (0 : Int) AU1 (0 : Int) NU1 ia.toInt sa.toInt PA TM1.heap n0 hPS1.sz hPS1 (Or.inl rfl) rfl (Dy.i2d sa) (Dy.i2d ia) hpa hPA (by omega) (by rw [t0]; omega) (by omega) (by rw [t0]; omega) (by omega)) hZ (hw _ (List.mem_of_getElem? (i := 39) rfl)) (hw _ (List.mem_of_getElem? (i := 2) rfl)) (by decide) (by decide)) q185a q185c (g := (mkF m 164 #[.val (.int p1), .val (.int p2), .val (.int p3), .val (.int p4), .val (.int p5), .val (.int rA), .val (.int rB), .val (.int rC), .val (.int rU), .val (.int q), .val (.double (FP.i2d sa)), .second, .val (.double (FP.i2d sb)), .second, .val (.double (FP.i2d sc)), .second, .val (.double (FP.i2d ia)), .second, .val (.double (FP.i2d ib)), .second, .val (.double (FP.i2d ic)), .second, .val (.double (FP.i2d ie)), .second, .val (.ref po), .unset, .unset, .unset, .unset, .unset, .unset, .unset, .unset, .unset, .unset, .unset, .unset, .unset, .unset, .unset, .unset, .unset, .unset, .unset, .unset, .unset, .unset] [(.double (FP.i2d ia)), (.double (FP.i2d sa)), (.int (0 : Int32)), (.int (0 : Int32)), (.ref po)])) rfl (by rw [hml]; rfl) (Steps.refl _) (argsL := [(.int (0 : Int32)), (.int (0 : Int32)), (.double (FP.i2d sa)), (.double (FP.i2d ia))]) (rest := []) (lenOf pd_3 rfl) rfl (by show 2 * 0 + _ ≤ _; exact Nat.le_of_eq rfl) (hb hby at_164) (fun _ _ => ⟨rfl, rfl, (by decide : ((0 + 1) + 4) + 0 ≤ _), (by decide : ((0 + 8) + 8) + 0 ≤ _)⟩)
      dsimp only [Pt.U, Pt.locs, Pt.cells, Pt.slots] at X185 l185 y185 z185 st185 hQ185
      subst l185 y185 z185
      obtain ⟨rfl, Nq185, Kc185, hPSn⟩ := hQ185
      have N185 := Fr.app NM1 Nq185
      have r186 : Steps p.tables e below S0 (T185.setTop (mkF m 167 #[.val (.int p1), .val (.int p2), .val (.int p3), .val (.int p4), .val (.int p5), .val (.int rA), .val (.int rB), .val (.int rC), .val (.int rU), .val (.int q), .val (.double (FP.i2d sa)), .second, .val (.double (FP.i2d sb)), .second, .val (.double (FP.i2d sc)), .second, .val (.double (FP.i2d ia)), .second, .val (.double (FP.i2d ib)), .second, .val (.double (FP.i2d ic)), .second, .val (.double (FP.i2d ie)), .second, .val (.ref po), .unset, .unset, .unset, .unset, .unset, .unset, .unset, .unset, .unset, .unset, .unset, .unset, .unset, .unset, .unset, .unset, .unset, .unset, .unset, .unset, .unset, .unset] [])) := r184.trans st185
      have z1 : XA = PA := by rw [hXA, if_neg hr]
      have z2 : NA = 1 := by rw [hNA, if_neg hr]
      exact ⟨_, _, _, _, _, _, X185, N185, hPSn, by rw [z1, z2]; exact ⟨upd_eq _ _ _, upd_ne (by decide), upd_eq _ _ _, upd_ne (by decide), rfl, rfl⟩, r186⟩
  obtain ⟨vA1, vA2, vA3, vA4, vA5, vA6⟩ := hrel2
  have r187 : Steps p.tables e below S0 (TM2.setTop (mkF m 169 #[.val (.int p1), .val (.int p2), .val (.int p3), .val (.int p4), .val (.int p5), .val (.int rA), .val (.int rB), .val (.int rC), .val (.int rU), .val (.int q), .val (.double (FP.i2d sa)), .second, .val (.double (FP.i2d sb)), .second, .val (.double (FP.i2d sc)), .second, .val (.double (FP.i2d ia)), .second, .val (.double (FP.i2d ib)), .second, .val (.double (FP.i2d ic)), .second, .val (.double (FP.i2d ie)), .second, .val (.ref po), .unset, .unset, .unset, .unset, .unset, .unset, .unset, .unset, .unset, .unset, .unset, .unset, .unset, .unset, .unset, .unset, .unset, .unset, .unset, .unset, .unset, .unset] [(.int rB)])) := by
    refine rM2.trans ?_
    show Steps p.tables e below (TM2.setTop (mkF m 167 #[.val (.int p1), .val (.int p2), .val (.int p3), .val (.int p4), .val (.int p5), .val (.int rA), .val (.int rB), .val (.int rC), .val (.int rU), .val (.int q), .val (.double (FP.i2d sa)), .second, .val (.double (FP.i2d sb)), .second, .val (.double (FP.i2d sc)), .second, .val (.double (FP.i2d ia)), .second, .val (.double (FP.i2d ib)), .second, .val (.double (FP.i2d ic)), .second, .val (.double (FP.i2d ie)), .second, .val (.ref po), .unset, .unset, .unset, .unset, .unset, .unset, .unset, .unset, .unset, .unset, .unset, .unset, .unset, .unset, .unset, .unset, .unset, .unset, .unset, .unset, .unset, .unset] [])) _
    refine XS.iload XM2.here hx rfl (hb hby at_167) rfl ?_
    exact Steps.refl _
  obtain ⟨TM3, LM3, SD3, CD3, AD3, ND3, XM3, NM3, hPS3, hrel3, rM3⟩ : ∃ (T' : State) (L' : List Loc) (SD3 CD3 : Nat → Int) (AD3 ND3 : Int), Stand p l e room_1 s m #[(.int p1), (.int p2), (.int p3), (.int p4), (.int p5)] below meth c T' L' ((0 + 1) + 4) ((0 + 8) + 8) ∧ Fr n0 L' ∧ PS Z T'.heap n0 po a1 a2 a3 a4 SD3 SU1 CD3 CU1 AD3 AU1 ND3 NU1 ∧ (SD3 0 = SD2 0 + XB ∧ SD3 1 = SD2 1 ∧ CD3 0 = CD2 0 + NB ∧ CD3 1 = CD2 1 ∧ AD3 = AD2 + XB ∧ ND3 = ND2 + NB) ∧ Steps p.tables e below S0 (T'.setTop (mkF m 183 #[.val (.int p1), .val (.int p2), .val (.int p3), .val (.int p4), .val (.int p5), .val (.int rA), .val (.int rB), .val (.int rC), .val (.int rU), .val (.int q), .val (.double (FP.i2d sa)), .second, .val (.double (FP.i2d sb)), .second, .val (.double (FP.i2d sc)), .second, .val (.double (FP.i2d ia)), .second, .val (.double (FP.i2d ib)), .second, .val (.double (FP.i2d ic)), .second, .val (.double (FP.i2d ie)), .second, .val (.ref po), .unset, .unset, .unset, .unset, .unset, .unset, .unset, .unset, .unset, .unset, .unset, .unset, .unset, .unset, .unset, .unset, .unset, .unset, .unset, .unset, .unset, .unset] [])) := by
    by_cases hr : rB = (0 : Int32)
    · skip
      have r188 : Steps p.tables e below S0 (TM2.setTop (mkF m 183 #[.val (.int p1), .val (.int p2), .val (.int p3), .val (.int p4), .val (.int p5), .val (.int rA), .val (.int rB), .val (.int rC), .val (.int rU), .val (.int q), .val (.double (FP.i2d sa)), .second, .val (.double (FP.i2d sb)), .second, .val (.double (FP.i2d sc)), .second, .val (.double (FP.i2d ia)), .second, .val (.double (FP.i2d ib)), .second, .val (.double (FP.i2d ic)), .second, .val (.double (FP.i2d ie)), .second, .val (.ref po), .unset, .unset, .unset, .unset, .unset, .unset, .unset, .unset, .unset, .unset, .unset, .unset, .unset, .unset, .unset, .unset, .unset, .unset, .unset, .unset, .unset, .unset] [])) := by
        refine r187.trans ?_
        show Steps p.tables e below (TM2.setTop (mkF m 169 #[.val (.int p1), .val (.int p2), .val (.int p3), .val (.int p4), .val (.int p5), .val (.int rA), .val (.int rB), .val (.int rC), .val (.int rU), .val (.int q), .val (.double (FP.i2d sa)), .second, .val (.double (FP.i2d sb)), .second, .val (.double (FP.i2d sc)), .second, .val (.double (FP.i2d ia)), .second, .val (.double (FP.i2d ib)), .second, .val (.double (FP.i2d ic)), .second, .val (.double (FP.i2d ie)), .second, .val (.ref po), .unset, .unset, .unset, .unset, .unset, .unset, .unset, .unset, .unset, .unset, .unset, .unset, .unset, .unset, .unset, .unset, .unset, .unset, .unset, .unset, .unset, .unset] [(.int rB)])) _
        refine XS.ifYes XM2.here hx rfl (pc0 := 169) (pc' := 183) rfl (hb hby at_169) rfl ((if0 _ _).trans (teq hr).1) (by decide) (by decide) ?_
        exact Steps.refl _
      have z1 : XB = 0 := by rw [hXB, if_pos hr]
      have z2 : NB = 0 := by rw [hNB, if_pos hr]
      exact ⟨_, _, SD2, CD2, AD2, ND2, XM2, NM2, hPS2, by rw [z1, z2]; simp, r188⟩
    · skip
      skip
      have r189 : Steps p.tables e below S0 (TM2.setTop (mkF m 180 #[.val (.int p1), .val (.int p2), .val (.int p3), .val (.int p4), .val (.int p5), .val (.int rA), .val (.int rB), .val (.int rC), .val (.int rU), .val (.int q), .val (.double (FP.i2d sa)), .second, .val (.double (FP.i2d sb)), .second, .val (.double (FP.i2d sc)), .second, .val (.double (FP.i2d ia)), .second, .val (.double (FP.i2d ib)), .second, .val (.double (FP.i2d ic)), .second, .val (.double (FP.i2d ie)), .second, .val (.ref po), .unset, .unset, .unset, .unset, .unset, .unset, .unset, .unset, .unset, .unset, .unset, .unset, .unset, .unset, .unset, .unset, .unset, .unset, .unset, .unset, .unset, .unset] [(.double (FP.i2d ib)), (.double (FP.i2d sb)), (.int (0 : Int32)), (.int (0 : Int32)), (.ref po)])) := by
        refine r187.trans ?_
        show Steps p.tables e below (TM2.setTop (mkF m 169 #[.val (.int p1), .val (.int p2), .val (.int p3), .val (.int p4), .val (.int p5), .val (.int rA), .val (.int rB), .val (.int rC), .val (.int rU), .val (.int q), .val (.double (FP.i2d sa)), .second, .val (.double (FP.i2d sb)), .second, .val (.double (FP.i2d sc)), .second, .val (.double (FP.i2d ia)), .second, .val (.double (FP.i2d ib)), .second, .val (.double (FP.i2d ic)), .second, .val (.double (FP.i2d ie)), .second, .val (.ref po), .unset, .unset, .unset, .unset, .unset, .unset, .unset, .unset, .unset, .unset, .unset, .unset, .unset, .unset, .unset, .unset, .unset, .unset, .unset, .unset, .unset, .unset] [(.int rB)])) _
        refine XS.ifNo XM2.here hx rfl (hb hby at_169) rfl ((if0 _ _).trans (feq hr).1) ?_
        show Steps p.tables e below (TM2.setTop (mkF m 172 #[.val (.int p1), .val (.int p2), .val (.int p3), .val (.int p4), .val (.int p5), .val (.int rA), .val (.int rB), .val (.int rC), .val (.int rU), .val (.int q), .val (.double (FP.i2d sa)), .second, .val (.double (FP.i2d sb)), .second, .val (.double (FP.i2d sc)), .second, .val (.double (FP.i2d ia)), .second, .val (.double (FP.i2d ib)), .second, .val (.double (FP.i2d ic)), .second, .val (.double (FP.i2d ie)), .second, .val (.ref po), .unset, .unset, .unset, .unset, .unset, .unset, .unset, .unset, .unset, .unset, .unset, .unset, .unset, .unset, .unset, .unset, .unset, .unset, .unset, .unset, .unset, .unset] [])) _
        refine XS.aload XM2.here hx rfl (hb hby at_172) rfl rfl ?_
        show Steps p.tables e below (TM2.setTop (mkF m 174 #[.val (.int p1), .val (.int p2), .val (.int p3), .val (.int p4), .val (.int p5), .val (.int rA), .val (.int rB), .val (.int rC), .val (.int rU), .val (.int q), .val (.double (FP.i2d sa)), .second, .val (.double (FP.i2d sb)), .second, .val (.double (FP.i2d sc)), .second, .val (.double (FP.i2d ia)), .second, .val (.double (FP.i2d ib)), .second, .val (.double (FP.i2d ic)), .second, .val (.double (FP.i2d ie)), .second, .val (.ref po), .unset, .unset, .unset, .unset, .unset, .unset, .unset, .unset, .unset, .unset, .unset, .unset, .unset, .unset, .unset, .unset, .unset, .unset, .unset, .unset, .unset, .unset] [(.ref po)])) _
        refine XS.iconst XM2.here hx rfl (hb hby at_174) ?_
        show Steps p.tables e below (TM2.setTop (mkF m 175 #[.val (.int p1), .val (.int p2), .val (.int p3), .val (.int p4), .val (.int p5), .val (.int rA), .val (.int rB), .val (.int rC), .val (.int rU), .val (.int q), .val (.double (FP.i2d sa)), .second, .val (.double (FP.i2d sb)), .second, .val (.double (FP.i2d sc)), .second, .val (.double (FP.i2d ia)), .second, .val (.double (FP.i2d ib)), .second, .val (.double (FP.i2d ic)), .second, .val (.double (FP.i2d ie)), .second, .val (.ref po), .unset, .unset, .unset, .unset, .unset, .unset, .unset, .unset, .unset, .unset, .unset, .unset, .unset, .unset, .unset, .unset, .unset, .unset, .unset, .unset, .unset, .unset] [(.int (0 : Int32)), (.ref po)])) _
        refine XS.iconst XM2.here hx rfl (hb hby at_175) ?_
        show Steps p.tables e below (TM2.setTop (mkF m 176 #[.val (.int p1), .val (.int p2), .val (.int p3), .val (.int p4), .val (.int p5), .val (.int rA), .val (.int rB), .val (.int rC), .val (.int rU), .val (.int q), .val (.double (FP.i2d sa)), .second, .val (.double (FP.i2d sb)), .second, .val (.double (FP.i2d sc)), .second, .val (.double (FP.i2d ia)), .second, .val (.double (FP.i2d ib)), .second, .val (.double (FP.i2d ic)), .second, .val (.double (FP.i2d ie)), .second, .val (.ref po), .unset, .unset, .unset, .unset, .unset, .unset, .unset, .unset, .unset, .unset, .unset, .unset, .unset, .unset, .unset, .unset, .unset, .unset, .unset, .unset, .unset, .unset] [(.int (0 : Int32)), (.int (0 : Int32)), (.ref po)])) _
        refine XS.dload XM2.here hx rfl (hb hby at_176) rfl ?_
        show Steps p.tables e below (TM2.setTop (mkF m 178 #[.val (.int p1), .val (.int p2), .val (.int p3), .val (.int p4), .val (.int p5), .val (.int rA), .val (.int rB), .val (.int rC), .val (.int rU), .val (.int q), .val (.double (FP.i2d sa)), .second, .val (.double (FP.i2d sb)), .second, .val (.double (FP.i2d sc)), .second, .val (.double (FP.i2d ia)), .second, .val (.double (FP.i2d ib)), .second, .val (.double (FP.i2d ic)), .second, .val (.double (FP.i2d ie)), .second, .val (.ref po), .unset, .unset, .unset, .unset, .unset, .unset, .unset, .unset, .unset, .unset, .unset, .unset, .unset, .unset, .unset, .unset, .unset, .unset, .unset, .unset, .unset, .unset] [(.double (FP.i2d sb)), (.int (0 : Int32)), (.int (0 : Int32)), (.ref po)])) _
        refine XS.dload XM2.here hx rfl (hb hby at_178) rfl ?_
        exact Steps.refl _
      obtain ⟨cq190, kq190, q190a, q190b, q190c⟩ := isOf hZ rfl hPS2.exa
      obtain ⟨_, _, ⟨T190, L190, k190, n190⟩, -, X190, ⟨Lc190, hQ190, l190, y190, z190⟩, st190⟩ := XM2.virtualBack hx (y := (⟨"com/example/pivotline/pivotline/Pseudocosts", "record", "(IZDD)V"⟩ : MethodName)) (z := (⟨"com/example/pivotline/pivotline/Pseudocosts", "record", "(IZDD)V"⟩ : MethodName)) hown (mvT hZ (hw _ (List.mem_of_getElem? (i := 35) rfl))) (mvT hZ (hw _ (List.mem_of_getElem? (i := 36) rfl))) (notFace_of_selects (args := #[]) (mvT hZ (hw _ (List.mem_of_getElem? (i := 38) rfl)))) (mvT hZ (hw _ (List.mem_of_getElem? (i := 38) rfl))) (mvT hZ (hw _ (List.mem_of_getElem? (i := 37) rfl))) (by decide) (backOf (W := 0) (rmRd l Z a0 hw [] po (0 : Int32) (0 : Int32) (FP.i2d sb) (FP.i2d ib) a1 a2 a3 a4 SD2 SU1 CD2 CU1 AD2 AU1 ND2 NU1 ib.toInt sb.toInt PB TM2.heap n0 hPS2.sz hPS2 (Or.inl rfl) rfl (Dy.i2d sb) (Dy.i2d ib) hpb hPB (by omega) (by rw [t0]; omega) (by omega) (by rw [t0]; omega) (by omega)) hZ (hw _ (List.mem_of_getElem? (i := 39) rfl)) (hw _ (List.mem_of_getElem? (i := 2) rfl)) (by decide) (by decide)) q190a q190c (g := (mkF m 180 #[.val (.int p1), .val (.int p2), .val (.int p3), .val (.int p4), .val (.int p5), .val (.int rA), .val (.int rB), .val (.int rC), .val (.int rU), .val (.int q), .val (.double (FP.i2d sa)), .second, .val (.double (FP.i2d sb)), .second, .val (.double (FP.i2d sc)), .second, .val (.double (FP.i2d ia)), .second, .val (.double (FP.i2d ib)), .second, .val (.double (FP.i2d ic)), .second, .val (.double (FP.i2d ie)), .second, .val (.ref po), .unset, .unset, .unset, .unset, .unset, .unset, .unset, .unset, .unset, .unset, .unset, .unset, .unset, .unset, .unset, .unset, .unset, .unset, .unset, .unset, .unset, .unset] [(.double (FP.i2d ib)), (.double (FP.i2d sb)), (.int (0 : Int32)), (.int (0 : Int32)), (.ref po)])) rfl (by rw [hml]; rfl) (Steps.refl _) (argsL := [(.int (0 : Int32)), (.int (0 : Int32)), (.double (FP.i2d sb)), (.double (FP.i2d ib))]) (rest := []) (lenOf pd_3 rfl) rfl (by show 2 * 0 + _ ≤ _; exact Nat.le_of_eq rfl) (hb hby at_180) (fun _ _ => ⟨rfl, rfl, (by decide : ((0 + 1) + 4) + 0 ≤ _), (by decide : ((0 + 8) + 8) + 0 ≤ _)⟩)
      dsimp only [Pt.U, Pt.locs, Pt.cells, Pt.slots] at X190 l190 y190 z190 st190 hQ190
      subst l190 y190 z190
      obtain ⟨rfl, Nq190, Kc190, hPSn⟩ := hQ190
      have N190 := Fr.app NM2 Nq190
      have r191 : Steps p.tables e below S0 (T190.setTop (mkF m 183 #[.val (.int p1), .val (.int p2), .val (.int p3), .val (.int p4), .val (.int p5), .val (.int rA), .val (.int rB), .val (.int rC), .val (.int rU), .val (.int q), .val (.double (FP.i2d sa)), .second, .val (.double (FP.i2d sb)), .second, .val (.double (FP.i2d sc)), .second, .val (.double (FP.i2d ia)), .second, .val (.double (FP.i2d ib)), .second, .val (.double (FP.i2d ic)), .second, .val (.double (FP.i2d ie)), .second, .val (.ref po), .unset, .unset, .unset, .unset, .unset, .unset, .unset, .unset, .unset, .unset, .unset, .unset, .unset, .unset, .unset, .unset, .unset, .unset, .unset, .unset, .unset, .unset] [])) := r189.trans st190
      have z1 : XB = PB := by rw [hXB, if_neg hr]
      have z2 : NB = 1 := by rw [hNB, if_neg hr]
      exact ⟨_, _, _, _, _, _, X190, N190, hPSn, by rw [z1, z2]; exact ⟨upd_eq _ _ _, upd_ne (by decide), upd_eq _ _ _, upd_ne (by decide), rfl, rfl⟩, r191⟩
  obtain ⟨vB1, vB2, vB3, vB4, vB5, vB6⟩ := hrel3
  have r192 : Steps p.tables e below S0 (TM3.setTop (mkF m 185 #[.val (.int p1), .val (.int p2), .val (.int p3), .val (.int p4), .val (.int p5), .val (.int rA), .val (.int rB), .val (.int rC), .val (.int rU), .val (.int q), .val (.double (FP.i2d sa)), .second, .val (.double (FP.i2d sb)), .second, .val (.double (FP.i2d sc)), .second, .val (.double (FP.i2d ia)), .second, .val (.double (FP.i2d ib)), .second, .val (.double (FP.i2d ic)), .second, .val (.double (FP.i2d ie)), .second, .val (.ref po), .unset, .unset, .unset, .unset, .unset, .unset, .unset, .unset, .unset, .unset, .unset, .unset, .unset, .unset, .unset, .unset, .unset, .unset, .unset, .unset, .unset, .unset] [(.int rC)])) := by
    refine rM3.trans ?_
    show Steps p.tables e below (TM3.setTop (mkF m 183 #[.val (.int p1), .val (.int p2), .val (.int p3), .val (.int p4), .val (.int p5), .val (.int rA), .val (.int rB), .val (.int rC), .val (.int rU), .val (.int q), .val (.double (FP.i2d sa)), .second, .val (.double (FP.i2d sb)), .second, .val (.double (FP.i2d sc)), .second, .val (.double (FP.i2d ia)), .second, .val (.double (FP.i2d ib)), .second, .val (.double (FP.i2d ic)), .second, .val (.double (FP.i2d ie)), .second, .val (.ref po), .unset, .unset, .unset, .unset, .unset, .unset, .unset, .unset, .unset, .unset, .unset, .unset, .unset, .unset, .unset, .unset, .unset, .unset, .unset, .unset, .unset, .unset] [])) _
    refine XS.iload XM3.here hx rfl (hb hby at_183) rfl ?_
    exact Steps.refl _
  obtain ⟨TM4, LM4, SD4, CD4, AD4, ND4, XM4, NM4, hPS4, hrel4, rM4⟩ : ∃ (T' : State) (L' : List Loc) (SD4 CD4 : Nat → Int) (AD4 ND4 : Int), Stand p l e room_1 s m #[(.int p1), (.int p2), (.int p3), (.int p4), (.int p5)] below meth c T' L' ((0 + 1) + 4) ((0 + 8) + 8) ∧ Fr n0 L' ∧ PS Z T'.heap n0 po a1 a2 a3 a4 SD4 SU1 CD4 CU1 AD4 AU1 ND4 NU1 ∧ (SD4 1 = SD3 1 + XC ∧ SD4 0 = SD3 0 ∧ CD4 1 = CD3 1 + NC ∧ CD4 0 = CD3 0 ∧ AD4 = AD3 + XC ∧ ND4 = ND3 + NC) ∧ Steps p.tables e below S0 (T'.setTop (mkF m 199 #[.val (.int p1), .val (.int p2), .val (.int p3), .val (.int p4), .val (.int p5), .val (.int rA), .val (.int rB), .val (.int rC), .val (.int rU), .val (.int q), .val (.double (FP.i2d sa)), .second, .val (.double (FP.i2d sb)), .second, .val (.double (FP.i2d sc)), .second, .val (.double (FP.i2d ia)), .second, .val (.double (FP.i2d ib)), .second, .val (.double (FP.i2d ic)), .second, .val (.double (FP.i2d ie)), .second, .val (.ref po), .unset, .unset, .unset, .unset, .unset, .unset, .unset, .unset, .unset, .unset, .unset, .unset, .unset, .unset, .unset, .unset, .unset, .unset, .unset, .unset, .unset, .unset] [])) := by
    by_cases hr : rC = (0 : Int32)
    · skip
      have r193 : Steps p.tables e below S0 (TM3.setTop (mkF m 199 #[.val (.int p1), .val (.int p2), .val (.int p3), .val (.int p4), .val (.int p5), .val (.int rA), .val (.int rB), .val (.int rC), .val (.int rU), .val (.int q), .val (.double (FP.i2d sa)), .second, .val (.double (FP.i2d sb)), .second, .val (.double (FP.i2d sc)), .second, .val (.double (FP.i2d ia)), .second, .val (.double (FP.i2d ib)), .second, .val (.double (FP.i2d ic)), .second, .val (.double (FP.i2d ie)), .second, .val (.ref po), .unset, .unset, .unset, .unset, .unset, .unset, .unset, .unset, .unset, .unset, .unset, .unset, .unset, .unset, .unset, .unset, .unset, .unset, .unset, .unset, .unset, .unset] [])) := by
        refine r192.trans ?_
        show Steps p.tables e below (TM3.setTop (mkF m 185 #[.val (.int p1), .val (.int p2), .val (.int p3), .val (.int p4), .val (.int p5), .val (.int rA), .val (.int rB), .val (.int rC), .val (.int rU), .val (.int q), .val (.double (FP.i2d sa)), .second, .val (.double (FP.i2d sb)), .second, .val (.double (FP.i2d sc)), .second, .val (.double (FP.i2d ia)), .second, .val (.double (FP.i2d ib)), .second, .val (.double (FP.i2d ic)), .second, .val (.double (FP.i2d ie)), .second, .val (.ref po), .unset, .unset, .unset, .unset, .unset, .unset, .unset, .unset, .unset, .unset, .unset, .unset, .unset, .unset, .unset, .unset, .unset, .unset, .unset, .unset, .unset, .unset] [(.int rC)])) _
        refine XS.ifYes XM3.here hx rfl (pc0 := 185) (pc' := 199) rfl (hb hby at_185) rfl ((if0 _ _).trans (teq hr).1) (by decide) (by decide) ?_
        exact Steps.refl _
      have z1 : XC = 0 := by rw [hXC, if_pos hr]
      have z2 : NC = 0 := by rw [hNC, if_pos hr]
      exact ⟨_, _, SD3, CD3, AD3, ND3, XM3, NM3, hPS3, by rw [z1, z2]; simp, r193⟩
    · skip
      skip
      have r194 : Steps p.tables e below S0 (TM3.setTop (mkF m 196 #[.val (.int p1), .val (.int p2), .val (.int p3), .val (.int p4), .val (.int p5), .val (.int rA), .val (.int rB), .val (.int rC), .val (.int rU), .val (.int q), .val (.double (FP.i2d sa)), .second, .val (.double (FP.i2d sb)), .second, .val (.double (FP.i2d sc)), .second, .val (.double (FP.i2d ia)), .second, .val (.double (FP.i2d ib)), .second, .val (.double (FP.i2d ic)), .second, .val (.double (FP.i2d ie)), .second, .val (.ref po), .unset, .unset, .unset, .unset, .unset, .unset, .unset, .unset, .unset, .unset, .unset, .unset, .unset, .unset, .unset, .unset, .unset, .unset, .unset, .unset, .unset, .unset] [(.double (FP.i2d ic)), (.double (FP.i2d sc)), (.int (0 : Int32)), (.int (1 : Int32)), (.ref po)])) := by
        refine r192.trans ?_
        show Steps p.tables e below (TM3.setTop (mkF m 185 #[.val (.int p1), .val (.int p2), .val (.int p3), .val (.int p4), .val (.int p5), .val (.int rA), .val (.int rB), .val (.int rC), .val (.int rU), .val (.int q), .val (.double (FP.i2d sa)), .second, .val (.double (FP.i2d sb)), .second, .val (.double (FP.i2d sc)), .second, .val (.double (FP.i2d ia)), .second, .val (.double (FP.i2d ib)), .second, .val (.double (FP.i2d ic)), .second, .val (.double (FP.i2d ie)), .second, .val (.ref po), .unset, .unset, .unset, .unset, .unset, .unset, .unset, .unset, .unset, .unset, .unset, .unset, .unset, .unset, .unset, .unset, .unset, .unset, .unset, .unset, .unset, .unset] [(.int rC)])) _
        refine XS.ifNo XM3.here hx rfl (hb hby at_185) rfl ((if0 _ _).trans (feq hr).1) ?_
        show Steps p.tables e below (TM3.setTop (mkF m 188 #[.val (.int p1), .val (.int p2), .val (.int p3), .val (.int p4), .val (.int p5), .val (.int rA), .val (.int rB), .val (.int rC), .val (.int rU), .val (.int q), .val (.double (FP.i2d sa)), .second, .val (.double (FP.i2d sb)), .second, .val (.double (FP.i2d sc)), .second, .val (.double (FP.i2d ia)), .second, .val (.double (FP.i2d ib)), .second, .val (.double (FP.i2d ic)), .second, .val (.double (FP.i2d ie)), .second, .val (.ref po), .unset, .unset, .unset, .unset, .unset, .unset, .unset, .unset, .unset, .unset, .unset, .unset, .unset, .unset, .unset, .unset, .unset, .unset, .unset, .unset, .unset, .unset] [])) _
        refine XS.aload XM3.here hx rfl (hb hby at_188) rfl rfl ?_
        show Steps p.tables e below (TM3.setTop (mkF m 190 #[.val (.int p1), .val (.int p2), .val (.int p3), .val (.int p4), .val (.int p5), .val (.int rA), .val (.int rB), .val (.int rC), .val (.int rU), .val (.int q), .val (.double (FP.i2d sa)), .second, .val (.double (FP.i2d sb)), .second, .val (.double (FP.i2d sc)), .second, .val (.double (FP.i2d ia)), .second, .val (.double (FP.i2d ib)), .second, .val (.double (FP.i2d ic)), .second, .val (.double (FP.i2d ie)), .second, .val (.ref po), .unset, .unset, .unset, .unset, .unset, .unset, .unset, .unset, .unset, .unset, .unset, .unset, .unset, .unset, .unset, .unset, .unset, .unset, .unset, .unset, .unset, .unset] [(.ref po)])) _
        refine XS.iconst XM3.here hx rfl (hb hby at_190) ?_
        show Steps p.tables e below (TM3.setTop (mkF m 191 #[.val (.int p1), .val (.int p2), .val (.int p3), .val (.int p4), .val (.int p5), .val (.int rA), .val (.int rB), .val (.int rC), .val (.int rU), .val (.int q), .val (.double (FP.i2d sa)), .second, .val (.double (FP.i2d sb)), .second, .val (.double (FP.i2d sc)), .second, .val (.double (FP.i2d ia)), .second, .val (.double (FP.i2d ib)), .second, .val (.double (FP.i2d ic)), .second, .val (.double (FP.i2d ie)), .second, .val (.ref po), .unset, .unset, .unset, .unset, .unset, .unset, .unset, .unset, .unset, .unset, .unset, .unset, .unset, .unset, .unset, .unset, .unset, .unset, .unset, .unset, .unset, .unset] [(.int (1 : Int32)), (.ref po)])) _
        refine XS.iconst XM3.here hx rfl (hb hby at_191) ?_
        show Steps p.tables e below (TM3.setTop (mkF m 192 #[.val (.int p1), .val (.int p2), .val (.int p3), .val (.int p4), .val (.int p5), .val (.int rA), .val (.int rB), .val (.int rC), .val (.int rU), .val (.int q), .val (.double (FP.i2d sa)), .second, .val (.double (FP.i2d sb)), .second, .val (.double (FP.i2d sc)), .second, .val (.double (FP.i2d ia)), .second, .val (.double (FP.i2d ib)), .second, .val (.double (FP.i2d ic)), .second, .val (.double (FP.i2d ie)), .second, .val (.ref po), .unset, .unset, .unset, .unset, .unset, .unset, .unset, .unset, .unset, .unset, .unset, .unset, .unset, .unset, .unset, .unset, .unset, .unset, .unset, .unset, .unset, .unset] [(.int (0 : Int32)), (.int (1 : Int32)), (.ref po)])) _
        refine XS.dload XM3.here hx rfl (hb hby at_192) rfl ?_
        show Steps p.tables e below (TM3.setTop (mkF m 194 #[.val (.int p1), .val (.int p2), .val (.int p3), .val (.int p4), .val (.int p5), .val (.int rA), .val (.int rB), .val (.int rC), .val (.int rU), .val (.int q), .val (.double (FP.i2d sa)), .second, .val (.double (FP.i2d sb)), .second, .val (.double (FP.i2d sc)), .second, .val (.double (FP.i2d ia)), .second, .val (.double (FP.i2d ib)), .second, .val (.double (FP.i2d ic)), .second, .val (.double (FP.i2d ie)), .second, .val (.ref po), .unset, .unset, .unset, .unset, .unset, .unset, .unset, .unset, .unset, .unset, .unset, .unset, .unset, .unset, .unset, .unset, .unset, .unset, .unset, .unset, .unset, .unset] [(.double (FP.i2d sc)), (.int (0 : Int32)), (.int (1 : Int32)), (.ref po)])) _
        refine XS.dload XM3.here hx rfl (hb hby at_194) rfl ?_
        exact Steps.refl _
      obtain ⟨cq195, kq195, q195a, q195b, q195c⟩ := isOf hZ rfl hPS3.exa
      obtain ⟨_, _, ⟨T195, L195, k195, n195⟩, -, X195, ⟨Lc195, hQ195, l195, y195, z195⟩, st195⟩ := XM3.virtualBack hx (y := (⟨"com/example/pivotline/pivotline/Pseudocosts", "record", "(IZDD)V"⟩ : MethodName)) (z := (⟨"com/example/pivotline/pivotline/Pseudocosts", "record", "(IZDD)V"⟩ : MethodName)) hown (mvT hZ (hw _ (List.mem_of_getElem? (i := 35) rfl))) (mvT hZ (hw _ (List.mem_of_getElem? (i := 36) rfl))) (notFace_of_selects (args := #[]) (mvT hZ (hw _ (List.mem_of_getElem? (i := 38) rfl)))) (mvT hZ (hw _ (List.mem_of_getElem? (i := 38) rfl))) (mvT hZ (hw _ (List.mem_of_getElem? (i := 37) rfl))) (by decide) (backOf (W := 0) (rmRd l Z a0 hw [] po (1 : Int32) (0 : Int32) (FP.i2d sc) (FP.i2d ic) a1 a2 a3 a4 SD3 SU1 CD3 CU1 AD3 AU1 ND3 NU1 ic.toInt sc.toInt PC TM3.heap n0 hPS3.sz hPS3 (Or.inr rfl) rfl (Dy.i2d sc) (Dy.i2d ic) hpc hPC (by omega) (by rw [t1]; omega) (by omega) (by rw [t1]; omega) (by omega)) hZ (hw _ (List.mem_of_getElem? (i := 39) rfl)) (hw _ (List.mem_of_getElem? (i := 2) rfl)) (by decide) (by decide)) q195a q195c (g := (mkF m 196 #[.val (.int p1), .val (.int p2), .val (.int p3), .val (.int p4), .val (.int p5), .val (.int rA), .val (.int rB), .val (.int rC), .val (.int rU), .val (.int q), .val (.double (FP.i2d sa)), .second, .val (.double (FP.i2d sb)), .second, .val (.double (FP.i2d sc)), .second, .val (.double (FP.i2d ia)), .second, .val (.double (FP.i2d ib)), .second, .val (.double (FP.i2d ic)), .second, .val (.double (FP.i2d ie)), .second, .val (.ref po), .unset, .unset, .unset, .unset, .unset, .unset, .unset, .unset, .unset, .unset, .unset, .unset, .unset, .unset, .unset, .unset, .unset, .unset, .unset, .unset, .unset, .unset] [(.double (FP.i2d ic)), (.double (FP.i2d sc)), (.int (0 : Int32)), (.int (1 : Int32)), (.ref po)])) rfl (by rw [hml]; rfl) (Steps.refl _) (argsL := [(.int (1 : Int32)), (.int (0 : Int32)), (.double (FP.i2d sc)), (.double (FP.i2d ic))]) (rest := []) (lenOf pd_3 rfl) rfl (by show 2 * 0 + _ ≤ _; exact Nat.le_of_eq rfl) (hb hby at_196) (fun _ _ => ⟨rfl, rfl, (by decide : ((0 + 1) + 4) + 0 ≤ _), (by decide : ((0 + 8) + 8) + 0 ≤ _)⟩)
      dsimp only [Pt.U, Pt.locs, Pt.cells, Pt.slots] at X195 l195 y195 z195 st195 hQ195
      subst l195 y195 z195
      obtain ⟨rfl, Nq195, Kc195, hPSn⟩ := hQ195
      have N195 := Fr.app NM3 Nq195
      have r196 : Steps p.tables e below S0 (T195.setTop (mkF m 199 #[.val (.int p1), .val (.int p2), .val (.int p3), .val (.int p4), .val (.int p5), .val (.int rA), .val (.int rB), .val (.int rC), .val (.int rU), .val (.int q), .val (.double (FP.i2d sa)), .second, .val (.double (FP.i2d sb)), .second, .val (.double (FP.i2d sc)), .second, .val (.double (FP.i2d ia)), .second, .val (.double (FP.i2d ib)), .second, .val (.double (FP.i2d ic)), .second, .val (.double (FP.i2d ie)), .second, .val (.ref po), .unset, .unset, .unset, .unset, .unset, .unset, .unset, .unset, .unset, .unset, .unset, .unset, .unset, .unset, .unset, .unset, .unset, .unset, .unset, .unset, .unset, .unset] [])) := r194.trans st195
      have z1 : XC = PC := by rw [hXC, if_neg hr]
      have z2 : NC = 1 := by rw [hNC, if_neg hr]
      exact ⟨_, _, _, _, _, _, X195, N195, hPSn, by rw [z1, z2]; exact ⟨upd_eq _ _ _, upd_ne (by decide), upd_eq _ _ _, upd_ne (by decide), rfl, rfl⟩, r196⟩
  obtain ⟨vC1, vC2, vC3, vC4, vC5, vC6⟩ := hrel4
  have r197 : Steps p.tables e below S0 (TM4.setTop (mkF m 201 #[.val (.int p1), .val (.int p2), .val (.int p3), .val (.int p4), .val (.int p5), .val (.int rA), .val (.int rB), .val (.int rC), .val (.int rU), .val (.int q), .val (.double (FP.i2d sa)), .second, .val (.double (FP.i2d sb)), .second, .val (.double (FP.i2d sc)), .second, .val (.double (FP.i2d ia)), .second, .val (.double (FP.i2d ib)), .second, .val (.double (FP.i2d ic)), .second, .val (.double (FP.i2d ie)), .second, .val (.ref po), .unset, .unset, .unset, .unset, .unset, .unset, .unset, .unset, .unset, .unset, .unset, .unset, .unset, .unset, .unset, .unset, .unset, .unset, .unset, .unset, .unset, .unset] [(.int rU)])) := by
    refine rM4.trans ?_
    show Steps p.tables e below (TM4.setTop (mkF m 199 #[.val (.int p1), .val (.int p2), .val (.int p3), .val (.int p4), .val (.int p5), .val (.int rA), .val (.int rB), .val (.int rC), .val (.int rU), .val (.int q), .val (.double (FP.i2d sa)), .second, .val (.double (FP.i2d sb)), .second, .val (.double (FP.i2d sc)), .second, .val (.double (FP.i2d ia)), .second, .val (.double (FP.i2d ib)), .second, .val (.double (FP.i2d ic)), .second, .val (.double (FP.i2d ie)), .second, .val (.ref po), .unset, .unset, .unset, .unset, .unset, .unset, .unset, .unset, .unset, .unset, .unset, .unset, .unset, .unset, .unset, .unset, .unset, .unset, .unset, .unset, .unset, .unset] [])) _
    refine XS.iload XM4.here hx rfl (hb hby at_199) rfl ?_
    exact Steps.refl _
  obtain ⟨TM5, LM5, SU5, CU5, AU5, NU5, XM5, NM5, hPS5, hrel5, rM5⟩ : ∃ (T' : State) (L' : List Loc) (SU5 CU5 : Nat → Int) (AU5 NU5 : Int), Stand p l e room_1 s m #[(.int p1), (.int p2), (.int p3), (.int p4), (.int p5)] below meth c T' L' ((0 + 1) + 4) ((0 + 8) + 8) ∧ Fr n0 L' ∧ PS Z T'.heap n0 po a1 a2 a3 a4 SD4 SU5 CD4 CU5 AD4 AU5 ND4 NU5 ∧ ((∀ i : Nat, i < 2 → (SU5 i).natAbs ≤ (SU1 i).natAbs + 8000 ∧ (CU5 i).natAbs ≤ (CU1 i).natAbs + 1) ∧ AU5.natAbs ≤ (AU1 : Int).natAbs + 8000 ∧ NU5.natAbs ≤ (NU1 : Int).natAbs + 1) ∧ Steps p.tables e below S0 (T'.setTop (mkF m 217 #[.val (.int p1), .val (.int p2), .val (.int p3), .val (.int p4), .val (.int p5), .val (.int rA), .val (.int rB), .val (.int rC), .val (.int rU), .val (.int q), .val (.double (FP.i2d sa)), .second, .val (.double (FP.i2d sb)), .second, .val (.double (FP.i2d sc)), .second, .val (.double (FP.i2d ia)), .second, .val (.double (FP.i2d ib)), .second, .val (.double (FP.i2d ic)), .second, .val (.double (FP.i2d ie)), .second, .val (.ref po), .unset, .unset, .unset, .unset, .unset, .unset, .unset, .unset, .unset, .unset, .unset, .unset, .unset, .unset, .unset, .unset, .unset, .unset, .unset, .unset, .unset, .unset] [])) := by
    by_cases hr : rU = (0 : Int32)
    · skip
      have r198 : Steps p.tables e below S0 (TM4.setTop (mkF m 217 #[.val (.int p1), .val (.int p2), .val (.int p3), .val (.int p4), .val (.int p5), .val (.int rA), .val (.int rB), .val (.int rC), .val (.int rU), .val (.int q), .val (.double (FP.i2d sa)), .second, .val (.double (FP.i2d sb)), .second, .val (.double (FP.i2d sc)), .second, .val (.double (FP.i2d ia)), .second, .val (.double (FP.i2d ib)), .second, .val (.double (FP.i2d ic)), .second, .val (.double (FP.i2d ie)), .second, .val (.ref po), .unset, .unset, .unset, .unset, .unset, .unset, .unset, .unset, .unset, .unset, .unset, .unset, .unset, .unset, .unset, .unset, .unset, .unset, .unset, .unset, .unset, .unset] [])) := by
        refine r197.trans ?_
        show Steps p.tables e below (TM4.setTop (mkF m 201 #[.val (.int p1), .val (.int p2), .val (.int p3), .val (.int p4), .val (.int p5), .val (.int rA), .val (.int rB), .val (.int rC), .val (.int rU), .val (.int q), .val (.double (FP.i2d sa)), .second, .val (.double (FP.i2d sb)), .second, .val (.double (FP.i2d sc)), .second, .val (.double (FP.i2d ia)), .second, .val (.double (FP.i2d ib)), .second, .val (.double (FP.i2d ic)), .second, .val (.double (FP.i2d ie)), .second, .val (.ref po), .unset, .unset, .unset, .unset, .unset, .unset, .unset, .unset, .unset, .unset, .unset, .unset, .unset, .unset, .unset, .unset, .unset, .unset, .unset, .unset, .unset, .unset] [(.int rU)])) _
        refine XS.ifYes XM4.here hx rfl (pc0 := 201) (pc' := 217) rfl (hb hby at_201) rfl ((if0 _ _).trans (teq hr).1) (by decide) (by decide) ?_
        exact Steps.refl _
      exact ⟨_, _, SU1, CU1, AU1, NU1, XM4, NM4, hPS4, ⟨fun i _ => by omega, by omega, by omega⟩, r198⟩
    · skip
      skip
      have r199 : Steps p.tables e below S0 (TM4.setTop (mkF m 214 #[.val (.int p1), .val (.int p2), .val (.int p3), .val (.int p4), .val (.int p5), .val (.int rA), .val (.int rB), .val (.int rC), .val (.int rU), .val (.int q), .val (.double (FP.i2d sa)), .second, .val (.double (FP.i2d sb)), .second, .val (.double (FP.i2d sc)), .second, .val (.double (FP.i2d ia)), .second, .val (.double (FP.i2d ib)), .second, .val (.double (FP.i2d ic)), .second, .val (.double (FP.i2d ie)), .second, .val (.ref po), .unset, .unset, .unset, .unset, .unset, .unset, .unset, .unset, .unset, .unset, .unset, .unset, .unset, .unset, .unset, .unset, .unset, .unset, .unset, .unset, .unset, .unset] [(.double (FP.i2d ie)), (.double FP.dconst1), (.int (1 : Int32)), (.int ((1 : Int32) - q)), (.ref po)])) := by
        refine r197.trans ?_
        show Steps p.tables e below (TM4.setTop (mkF m 201 #[.val (.int p1), .val (.int p2), .val (.int p3), .val (.int p4), .val (.int p5), .val (.int rA), .val (.int rB), .val (.int rC), .val (.int rU), .val (.int q), .val (.double (FP.i2d sa)), .second, .val (.double (FP.i2d sb)), .second, .val (.double (FP.i2d sc)), .second, .val (.double (FP.i2d ia)), .second, .val (.double (FP.i2d ib)), .second, .val (.double (FP.i2d ic)), .second, .val (.double (FP.i2d ie)), .second, .val (.ref po), .unset, .unset, .unset, .unset, .unset, .unset, .unset, .unset, .unset, .unset, .unset, .unset, .unset, .unset, .unset, .unset, .unset, .unset, .unset, .unset, .unset, .unset] [(.int rU)])) _
        refine XS.ifNo XM4.here hx rfl (hb hby at_201) rfl ((if0 _ _).trans (feq hr).1) ?_
        show Steps p.tables e below (TM4.setTop (mkF m 204 #[.val (.int p1), .val (.int p2), .val (.int p3), .val (.int p4), .val (.int p5), .val (.int rA), .val (.int rB), .val (.int rC), .val (.int rU), .val (.int q), .val (.double (FP.i2d sa)), .second, .val (.double (FP.i2d sb)), .second, .val (.double (FP.i2d sc)), .second, .val (.double (FP.i2d ia)), .second, .val (.double (FP.i2d ib)), .second, .val (.double (FP.i2d ic)), .second, .val (.double (FP.i2d ie)), .second, .val (.ref po), .unset, .unset, .unset, .unset, .unset, .unset, .unset, .unset, .unset, .unset, .unset, .unset, .unset, .unset, .unset, .unset, .unset, .unset, .unset, .unset, .unset, .unset] [])) _
        refine XS.aload XM4.here hx rfl (hb hby at_204) rfl rfl ?_
        show Steps p.tables e below (TM4.setTop (mkF m 206 #[.val (.int p1), .val (.int p2), .val (.int p3), .val (.int p4), .val (.int p5), .val (.int rA), .val (.int rB), .val (.int rC), .val (.int rU), .val (.int q), .val (.double (FP.i2d sa)), .second, .val (.double (FP.i2d sb)), .second, .val (.double (FP.i2d sc)), .second, .val (.double (FP.i2d ia)), .second, .val (.double (FP.i2d ib)), .second, .val (.double (FP.i2d ic)), .second, .val (.double (FP.i2d ie)), .second, .val (.ref po), .unset, .unset, .unset, .unset, .unset, .unset, .unset, .unset, .unset, .unset, .unset, .unset, .unset, .unset, .unset, .unset, .unset, .unset, .unset, .unset, .unset, .unset] [(.ref po)])) _
        refine XS.iconst XM4.here hx rfl (hb hby at_206) ?_
        show Steps p.tables e below (TM4.setTop (mkF m 207 #[.val (.int p1), .val (.int p2), .val (.int p3), .val (.int p4), .val (.int p5), .val (.int rA), .val (.int rB), .val (.int rC), .val (.int rU), .val (.int q), .val (.double (FP.i2d sa)), .second, .val (.double (FP.i2d sb)), .second, .val (.double (FP.i2d sc)), .second, .val (.double (FP.i2d ia)), .second, .val (.double (FP.i2d ib)), .second, .val (.double (FP.i2d ic)), .second, .val (.double (FP.i2d ie)), .second, .val (.ref po), .unset, .unset, .unset, .unset, .unset, .unset, .unset, .unset, .unset, .unset, .unset, .unset, .unset, .unset, .unset, .unset, .unset, .unset, .unset, .unset, .unset, .unset] [(.int (1 : Int32)), (.ref po)])) _
        refine XS.iload XM4.here hx rfl (hb hby at_207) rfl ?_
        show Steps p.tables e below (TM4.setTop (mkF m 209 #[.val (.int p1), .val (.int p2), .val (.int p3), .val (.int p4), .val (.int p5), .val (.int rA), .val (.int rB), .val (.int rC), .val (.int rU), .val (.int q), .val (.double (FP.i2d sa)), .second, .val (.double (FP.i2d sb)), .second, .val (.double (FP.i2d sc)), .second, .val (.double (FP.i2d ia)), .second, .val (.double (FP.i2d ib)), .second, .val (.double (FP.i2d ic)), .second, .val (.double (FP.i2d ie)), .second, .val (.ref po), .unset, .unset, .unset, .unset, .unset, .unset, .unset, .unset, .unset, .unset, .unset, .unset, .unset, .unset, .unset, .unset, .unset, .unset, .unset, .unset, .unset, .unset] [(.int q), (.int (1 : Int32)), (.ref po)])) _
        refine XS.isub XM4.here hx rfl (hb hby at_209) rfl ?_
        show Steps p.tables e below (TM4.setTop (mkF m 210 #[.val (.int p1), .val (.int p2), .val (.int p3), .val (.int p4), .val (.int p5), .val (.int rA), .val (.int rB), .val (.int rC), .val (.int rU), .val (.int q), .val (.double (FP.i2d sa)), .second, .val (.double (FP.i2d sb)), .second, .val (.double (FP.i2d sc)), .second, .val (.double (FP.i2d ia)), .second, .val (.double (FP.i2d ib)), .second, .val (.double (FP.i2d ic)), .second, .val (.double (FP.i2d ie)), .second, .val (.ref po), .unset, .unset, .unset, .unset, .unset, .unset, .unset, .unset, .unset, .unset, .unset, .unset, .unset, .unset, .unset, .unset, .unset, .unset, .unset, .unset, .unset, .unset] [(.int ((1 : Int32) - q)), (.ref po)])) _
        refine XS.iconst XM4.here hx rfl (hb hby at_210) ?_
        show Steps p.tables e below (TM4.setTop (mkF m 211 #[.val (.int p1), .val (.int p2), .val (.int p3), .val (.int p4), .val (.int p5), .val (.int rA), .val (.int rB), .val (.int rC), .val (.int rU), .val (.int q), .val (.double (FP.i2d sa)), .second, .val (.double (FP.i2d sb)), .second, .val (.double (FP.i2d sc)), .second, .val (.double (FP.i2d ia)), .second, .val (.double (FP.i2d ib)), .second, .val (.double (FP.i2d ic)), .second, .val (.double (FP.i2d ie)), .second, .val (.ref po), .unset, .unset, .unset, .unset, .unset, .unset, .unset, .unset, .unset, .unset, .unset, .unset, .unset, .unset, .unset, .unset, .unset, .unset, .unset, .unset, .unset, .unset] [(.int (1 : Int32)), (.int ((1 : Int32) - q)), (.ref po)])) _
        refine XS.dconst1 XM4.here hx rfl (hb hby at_211) rfl ?_
        show Steps p.tables e below (TM4.setTop (mkF m 212 #[.val (.int p1), .val (.int p2), .val (.int p3), .val (.int p4), .val (.int p5), .val (.int rA), .val (.int rB), .val (.int rC), .val (.int rU), .val (.int q), .val (.double (FP.i2d sa)), .second, .val (.double (FP.i2d sb)), .second, .val (.double (FP.i2d sc)), .second, .val (.double (FP.i2d ia)), .second, .val (.double (FP.i2d ib)), .second, .val (.double (FP.i2d ic)), .second, .val (.double (FP.i2d ie)), .second, .val (.ref po), .unset, .unset, .unset, .unset, .unset, .unset, .unset, .unset, .unset, .unset, .unset, .unset, .unset, .unset, .unset, .unset, .unset, .unset, .unset, .unset, .unset, .unset] [(.double FP.dconst1), (.int (1 : Int32)), (.int ((1 : Int32) - q)), (.ref po)])) _
        refine XS.dload XM4.here hx rfl (hb hby at_212) rfl ?_
        exact Steps.refl _
      obtain ⟨cq200, kq200, q200a, q200b, q200c⟩ := isOf hZ rfl hPS4.exa
      obtain ⟨_, _, ⟨T200, L200, k200, n200⟩, -, X200, ⟨Lc200, hQ200, l200, y200, z200⟩, st200⟩ := XM4.virtualBack hx (y := (⟨"com/example/pivotline/pivotline/Pseudocosts", "record", "(IZDD)V"⟩ : MethodName)) (z := (⟨"com/example/pivotline/pivotline/Pseudocosts", "record", "(IZDD)V"⟩ : MethodName)) hown (mvT hZ (hw _ (List.mem_of_getElem? (i := 35) rfl))) (mvT hZ (hw _ (List.mem_of_getElem? (i := 36) rfl))) (notFace_of_selects (args := #[]) (mvT hZ (hw _ (List.mem_of_getElem? (i := 38) rfl)))) (mvT hZ (hw _ (List.mem_of_getElem? (i := 38) rfl))) (mvT hZ (hw _ (List.mem_of_getElem? (i := 37) rfl))) (by decide) (backOf (W := 0) (rmRu l Z a0 hw [] po ((1 : Int32) - q) (1 : Int32) FP.dconst1 (FP.i2d ie) a1 a2 a3 a4 SD4 SU1 CD4 CU1 AD4 AU1 ND4 NU1 ie.toInt 1 PE TM4.heap n0 hPS4.sz hPS4 (own_1q hq2) (by decide) yE1 (Dy.i2d ie) (by decide) hPE (by omega) (by skip; omega) (by omega) (by skip; omega) (by omega)) hZ (hw _ (List.mem_of_getElem? (i := 39) rfl)) (hw _ (List.mem_of_getElem? (i := 2) rfl)) (by decide) (by decide)) q200a q200c (g := (mkF m 214 #[.val (.int p1), .val (.int p2), .val (.int p3), .val (.int p4), .val (.int p5), .val (.int rA), .val (.int rB), .val (.int rC), .val (.int rU), .val (.int q), .val (.double (FP.i2d sa)), .second, .val (.double (FP.i2d sb)), .second, .val (.double (FP.i2d sc)), .second, .val (.double (FP.i2d ia)), .second, .val (.double (FP.i2d ib)), .second, .val (.double (FP.i2d ic)), .second, .val (.double (FP.i2d ie)), .second, .val (.ref po), .unset, .unset, .unset, .unset, .unset, .unset, .unset, .unset, .unset, .unset, .unset, .unset, .unset, .unset, .unset, .unset, .unset, .unset, .unset, .unset, .unset, .unset] [(.double (FP.i2d ie)), (.double FP.dconst1), (.int (1 : Int32)), (.int ((1 : Int32) - q)), (.ref po)])) rfl (by rw [hml]; rfl) (Steps.refl _) (argsL := [(.int ((1 : Int32) - q)), (.int (1 : Int32)), (.double FP.dconst1), (.double (FP.i2d ie))]) (rest := []) (lenOf pd_3 rfl) rfl (by show 2 * 0 + _ ≤ _; exact Nat.le_of_eq rfl) (hb hby at_214) (fun _ _ => ⟨rfl, rfl, (by decide : ((0 + 1) + 4) + 0 ≤ _), (by decide : ((0 + 8) + 8) + 0 ≤ _)⟩)
      dsimp only [Pt.U, Pt.locs, Pt.cells, Pt.slots] at X200 l200 y200 z200 st200 hQ200
      subst l200 y200 z200
      obtain ⟨rfl, Nq200, Kc200, hPSn⟩ := hQ200
      have N200 := Fr.app NM4 Nq200
      have r201 : Steps p.tables e below S0 (T200.setTop (mkF m 217 #[.val (.int p1), .val (.int p2), .val (.int p3), .val (.int p4), .val (.int p5), .val (.int rA), .val (.int rB), .val (.int rC), .val (.int rU), .val (.int q), .val (.double (FP.i2d sa)), .second, .val (.double (FP.i2d sb)), .second, .val (.double (FP.i2d sc)), .second, .val (.double (FP.i2d ia)), .second, .val (.double (FP.i2d ib)), .second, .val (.double (FP.i2d ic)), .second, .val (.double (FP.i2d ie)), .second, .val (.ref po), .unset, .unset, .unset, .unset, .unset, .unset, .unset, .unset, .unset, .unset, .unset, .unset, .unset, .unset, .unset, .unset, .unset, .unset, .unset, .unset, .unset, .unset] [])) := r199.trans st200
      exact ⟨_, _, _, _, _, _, X200, N200, hPSn, ⟨fun i _ => own_ub _ _ _ PE i ⟨bPE0, bPE1⟩, by omega, by omega⟩, r201⟩
  have sd0 : SD4 0 = XA + XB := by rw [vC2, vB1, vA1]; omega
  have sd1 : SD4 1 = XC := by rw [vC1, vB2, vA2]; omega
  have cd0 : CD4 0 = NA + NB := by rw [vC4, vB3, vA3]; omega
  have cd1 : CD4 1 = NC := by rw [vC3, vB4, vA4]; omega
  have ad : AD4 = XA + XB + XC := by rw [vC5, vB5, vA5]; omega
  have nd : ND4 = NA + NB + NC := by rw [vC6, vB6, vA6]; omega
  obtain ⟨TG, LG, gg, XG, NG, eG, ⟨gd1, gd2, gd3⟩, rG⟩ : ∃ (T' : State) (L' : List Loc) (gg : UInt64), Stand p l e room_1 s m #[(.int p1), (.int p2), (.int p3), (.int p4), (.int p5)] below meth c T' L' (((0 + 1) + 4) + 0) (((0 + 8) + 8) + 0) ∧ Fr n0 L' ∧ T'.heap = TM5.heap ∧ ((0 < CD4 q.toNatClampNeg → ∃ (sm : UInt64) (ct : Int32), gg = FP.ddiv sm (FP.i2d ct) ∧ Dy (SD4 q.toNatClampNeg) 3 sm ∧ ct.toInt = CD4 q.toNatClampNeg) ∧ (¬ 0 < CD4 q.toNatClampNeg → 0 < ND4 → ∃ (sm : UInt64) (ct : Int64), gg = FP.ddiv sm (FP.l2d ct) ∧ Dy AD4 3 sm ∧ ct.toInt = ND4) ∧ (¬ 0 < CD4 q.toNatClampNeg → ¬ 0 < ND4 → gg = FP.dconst1)) ∧ Steps p.tables e below S0 (T'.setTop (mkF m 224 #[.val (.int p1), .val (.int p2), .val (.int p3), .val (.int p4), .val (.int p5), .val (.int rA), .val (.int rB), .val (.int rC), .val (.int rU), .val (.int q), .val (.double (FP.i2d sa)), .second, .val (.double (FP.i2d sb)), .second, .val (.double (FP.i2d sc)), .second, .val (.double (FP.i2d ia)), .second, .val (.double (FP.i2d ib)), .second, .val (.double (FP.i2d ic)), .second, .val (.double (FP.i2d ie)), .second, .val (.ref po), .unset, .unset, .unset, .unset, .unset, .unset, .unset, .unset, .unset, .unset, .unset, .unset, .unset, .unset, .unset, .unset, .unset, .unset, .unset, .unset, .unset, .unset] [(.double gg)])) := by
    by_cases h1 : 0 < CD4 q.toNatClampNeg
    · skip
      have r202 : Steps p.tables e below S0 (TM5.setTop (mkF m 221 #[.val (.int p1), .val (.int p2), .val (.int p3), .val (.int p4), .val (.int p5), .val (.int rA), .val (.int rB), .val (.int rC), .val (.int rU), .val (.int q), .val (.double (FP.i2d sa)), .second, .val (.double (FP.i2d sb)), .second, .val (.double (FP.i2d sc)), .second, .val (.double (FP.i2d ia)), .second, .val (.double (FP.i2d ib)), .second, .val (.double (FP.i2d ic)), .second, .val (.double (FP.i2d ie)), .second, .val (.ref po), .unset, .unset, .unset, .unset, .unset, .unset, .unset, .unset, .unset, .unset, .unset, .unset, .unset, .unset, .unset, .unset, .unset, .unset, .unset, .unset, .unset, .unset] [(.int q), (.ref po)])) := by
        refine rM5.trans ?_
        show Steps p.tables e below (TM5.setTop (mkF m 217 #[.val (.int p1), .val (.int p2), .val (.int p3), .val (.int p4), .val (.int p5), .val (.int rA), .val (.int rB), .val (.int rC), .val (.int rU), .val (.int q), .val (.double (FP.i2d sa)), .second, .val (.double (FP.i2d sb)), .second, .val (.double (FP.i2d sc)), .second, .val (.double (FP.i2d ia)), .second, .val (.double (FP.i2d ib)), .second, .val (.double (FP.i2d ic)), .second, .val (.double (FP.i2d ie)), .second, .val (.ref po), .unset, .unset, .unset, .unset, .unset, .unset, .unset, .unset, .unset, .unset, .unset, .unset, .unset, .unset, .unset, .unset, .unset, .unset, .unset, .unset, .unset, .unset] [])) _
        refine XS.aload XM5.here hx rfl (hb hby at_217) rfl rfl ?_
        show Steps p.tables e below (TM5.setTop (mkF m 219 #[.val (.int p1), .val (.int p2), .val (.int p3), .val (.int p4), .val (.int p5), .val (.int rA), .val (.int rB), .val (.int rC), .val (.int rU), .val (.int q), .val (.double (FP.i2d sa)), .second, .val (.double (FP.i2d sb)), .second, .val (.double (FP.i2d sc)), .second, .val (.double (FP.i2d ia)), .second, .val (.double (FP.i2d ib)), .second, .val (.double (FP.i2d ic)), .second, .val (.double (FP.i2d ie)), .second, .val (.ref po), .unset, .unset, .unset, .unset, .unset, .unset, .unset, .unset, .unset, .unset, .unset, .unset, .unset, .unset, .unset, .unset, .unset, .unset, .unset, .unset, .unset, .unset] [(.ref po)])) _
        refine XS.iload XM5.here hx rfl (hb hby at_219) rfl ?_
        exact Steps.refl _
      obtain ⟨cq203, kq203, q203a, q203b, q203c⟩ := isOf hZ rfl hPS5.exa
      obtain ⟨_, _, ⟨T203, L203, k203, n203⟩, -, X203, ⟨Lc203, hQ203, l203, y203, z203⟩, st203⟩ := XM5.virtualBack hx (y := (⟨"com/example/pivotline/pivotline/Pseudocosts", "down", "(I)D"⟩ : MethodName)) (z := (⟨"com/example/pivotline/pivotline/Pseudocosts", "down", "(I)D"⟩ : MethodName)) hown (mvT hZ (hw _ (List.mem_of_getElem? (i := 19) rfl))) (mvT hZ (hw _ (List.mem_of_getElem? (i := 20) rfl))) (notFace_of_selects (args := #[]) (mvT hZ (hw _ (List.mem_of_getElem? (i := 22) rfl)))) (mvT hZ (hw _ (List.mem_of_getElem? (i := 22) rfl))) (mvT hZ (hw _ (List.mem_of_getElem? (i := 21) rfl))) (by decide) (backOf (W := 0) (rmU0 l Z a0 hw [] po q a1 a2 a3 a4 SD4 SU5 CD4 CU5 AD4 AU5 ND4 NU5 TM5.heap n0 hPS5.sz hPS5 hq2 (by omega) h1) hZ (hw _ (List.mem_of_getElem? (i := 23) rfl)) (hw _ (List.mem_of_getElem? (i := 2) rfl)) (by decide) (by decide)) q203a q203c (g := (mkF m 221 #[.val (.int p1), .val (.int p2), .val (.int p3), .val (.int p4), .val (.int p5), .val (.int rA), .val (.int rB), .val (.int rC), .val (.int rU), .val (.int q), .val (.double (FP.i2d sa)), .second, .val (.double (FP.i2d sb)), .second, .val (.double (FP.i2d sc)), .second, .val (.double (FP.i2d ia)), .second, .val (.double (FP.i2d ib)), .second, .val (.double (FP.i2d ic)), .second, .val (.double (FP.i2d ie)), .second, .val (.ref po), .unset, .unset, .unset, .unset, .unset, .unset, .unset, .unset, .unset, .unset, .unset, .unset, .unset, .unset, .unset, .unset, .unset, .unset, .unset, .unset, .unset, .unset] [(.int q), (.ref po)])) rfl (by rw [hml]; rfl) (Steps.refl _) (argsL := [(.int q)]) (rest := []) (lenOf pd_4 rfl) rfl (by show 2 * 0 + _ ≤ _; exact Nat.le_of_eq rfl) (hb hby at_221) (fun _ _ => ⟨rfl, rfl, (by decide : ((0 + 1) + 4) + 0 ≤ _), (by decide : ((0 + 8) + 8) + 0 ≤ _)⟩)
      dsimp only [Pt.U, Pt.locs, Pt.cells, Pt.slots] at X203 l203 y203 z203 st203 hQ203
      subst l203 y203 z203
      obtain ⟨sm, ct, rfl, ysm, hct, Nq203, e203⟩ := hQ203
      have N203 := Fr.app NM5 Nq203
      have r204 : Steps p.tables e below S0 (T203.setTop (mkF m 224 #[.val (.int p1), .val (.int p2), .val (.int p3), .val (.int p4), .val (.int p5), .val (.int rA), .val (.int rB), .val (.int rC), .val (.int rU), .val (.int q), .val (.double (FP.i2d sa)), .second, .val (.double (FP.i2d sb)), .second, .val (.double (FP.i2d sc)), .second, .val (.double (FP.i2d ia)), .second, .val (.double (FP.i2d ib)), .second, .val (.double (FP.i2d ic)), .second, .val (.double (FP.i2d ie)), .second, .val (.ref po), .unset, .unset, .unset, .unset, .unset, .unset, .unset, .unset, .unset, .unset, .unset, .unset, .unset, .unset, .unset, .unset, .unset, .unset, .unset, .unset, .unset, .unset] [(.double (FP.ddiv sm (FP.i2d ct)))])) := r202.trans st203
      exact ⟨_, _, _, X203, N203, e203, ⟨fun _ => ⟨sm, ct, rfl, ysm, hct⟩, fun z => absurd h1 z, fun z => absurd h1 z⟩, r204⟩
    · by_cases h2 : 0 < ND4
      · skip
        have r205 : Steps p.tables e below S0 (TM5.setTop (mkF m 221 #[.val (.int p1), .val (.int p2), .val (.int p3), .val (.int p4), .val (.int p5), .val (.int rA), .val (.int rB), .val (.int rC), .val (.int rU), .val (.int q), .val (.double (FP.i2d sa)), .second, .val (.double (FP.i2d sb)), .second, .val (.double (FP.i2d sc)), .second, .val (.double (FP.i2d ia)), .second, .val (.double (FP.i2d ib)), .second, .val (.double (FP.i2d ic)), .second, .val (.double (FP.i2d ie)), .second, .val (.ref po), .unset, .unset, .unset, .unset, .unset, .unset, .unset, .unset, .unset, .unset, .unset, .unset, .unset, .unset, .unset, .unset, .unset, .unset, .unset, .unset, .unset, .unset] [(.int q), (.ref po)])) := by
          refine rM5.trans ?_
          show Steps p.tables e below (TM5.setTop (mkF m 217 #[.val (.int p1), .val (.int p2), .val (.int p3), .val (.int p4), .val (.int p5), .val (.int rA), .val (.int rB), .val (.int rC), .val (.int rU), .val (.int q), .val (.double (FP.i2d sa)), .second, .val (.double (FP.i2d sb)), .second, .val (.double (FP.i2d sc)), .second, .val (.double (FP.i2d ia)), .second, .val (.double (FP.i2d ib)), .second, .val (.double (FP.i2d ic)), .second, .val (.double (FP.i2d ie)), .second, .val (.ref po), .unset, .unset, .unset, .unset, .unset, .unset, .unset, .unset, .unset, .unset, .unset, .unset, .unset, .unset, .unset, .unset, .unset, .unset, .unset, .unset, .unset, .unset] [])) _
          refine XS.aload XM5.here hx rfl (hb hby at_217) rfl rfl ?_
          show Steps p.tables e below (TM5.setTop (mkF m 219 #[.val (.int p1), .val (.int p2), .val (.int p3), .val (.int p4), .val (.int p5), .val (.int rA), .val (.int rB), .val (.int rC), .val (.int rU), .val (.int q), .val (.double (FP.i2d sa)), .second, .val (.double (FP.i2d sb)), .second, .val (.double (FP.i2d sc)), .second, .val (.double (FP.i2d ia)), .second, .val (.double (FP.i2d ib)), .second, .val (.double (FP.i2d ic)), .second, .val (.double (FP.i2d ie)), .second, .val (.ref po), .unset, .unset, .unset, .unset, .unset, .unset, .unset, .unset, .unset, .unset, .unset, .unset, .unset, .unset, .unset, .unset, .unset, .unset, .unset, .unset, .unset, .unset] [(.ref po)])) _
          refine XS.iload XM5.here hx rfl (hb hby at_219) rfl ?_
          exact Steps.refl _
        obtain ⟨cq206, kq206, q206a, q206b, q206c⟩ := isOf hZ rfl hPS5.exa
        obtain ⟨_, _, ⟨T206, L206, k206, n206⟩, -, X206, ⟨Lc206, hQ206, l206, y206, z206⟩, st206⟩ := XM5.virtualBack hx (y := (⟨"com/example/pivotline/pivotline/Pseudocosts", "down", "(I)D"⟩ : MethodName)) (z := (⟨"com/example/pivotline/pivotline/Pseudocosts", "down", "(I)D"⟩ : MethodName)) hown (mvT hZ (hw _ (List.mem_of_getElem? (i := 19) rfl))) (mvT hZ (hw _ (List.mem_of_getElem? (i := 20) rfl))) (notFace_of_selects (args := #[]) (mvT hZ (hw _ (List.mem_of_getElem? (i := 22) rfl)))) (mvT hZ (hw _ (List.mem_of_getElem? (i := 22) rfl))) (mvT hZ (hw _ (List.mem_of_getElem? (i := 21) rfl))) (by decide) (backOf (W := 0) (rmU1 l Z a0 hw [] po q a1 a2 a3 a4 SD4 SU5 CD4 CU5 AD4 AU5 ND4 NU5 TM5.heap n0 hPS5.sz hPS5 hq2 (by omega) h1 h2) hZ (hw _ (List.mem_of_getElem? (i := 23) rfl)) (hw _ (List.mem_of_getElem? (i := 2) rfl)) (by decide) (by decide)) q206a q206c (g := (mkF m 221 #[.val (.int p1), .val (.int p2), .val (.int p3), .val (.int p4), .val (.int p5), .val (.int rA), .val (.int rB), .val (.int rC), .val (.int rU), .val (.int q), .val (.double (FP.i2d sa)), .second, .val (.double (FP.i2d sb)), .second, .val (.double (FP.i2d sc)), .second, .val (.double (FP.i2d ia)), .second, .val (.double (FP.i2d ib)), .second, .val (.double (FP.i2d ic)), .second, .val (.double (FP.i2d ie)), .second, .val (.ref po), .unset, .unset, .unset, .unset, .unset, .unset, .unset, .unset, .unset, .unset, .unset, .unset, .unset, .unset, .unset, .unset, .unset, .unset, .unset, .unset, .unset, .unset] [(.int q), (.ref po)])) rfl (by rw [hml]; rfl) (Steps.refl _) (argsL := [(.int q)]) (rest := []) (lenOf pd_4 rfl) rfl (by show 2 * 0 + _ ≤ _; exact Nat.le_of_eq rfl) (hb hby at_221) (fun _ _ => ⟨rfl, rfl, (by decide : ((0 + 1) + 4) + 0 ≤ _), (by decide : ((0 + 8) + 8) + 0 ≤ _)⟩)
        dsimp only [Pt.U, Pt.locs, Pt.cells, Pt.slots] at X206 l206 y206 z206 st206 hQ206
        subst l206 y206 z206
        obtain ⟨sm, ct, rfl, ysm, hct, Nq206, e206⟩ := hQ206
        have N206 := Fr.app NM5 Nq206
        have r207 : Steps p.tables e below S0 (T206.setTop (mkF m 224 #[.val (.int p1), .val (.int p2), .val (.int p3), .val (.int p4), .val (.int p5), .val (.int rA), .val (.int rB), .val (.int rC), .val (.int rU), .val (.int q), .val (.double (FP.i2d sa)), .second, .val (.double (FP.i2d sb)), .second, .val (.double (FP.i2d sc)), .second, .val (.double (FP.i2d ia)), .second, .val (.double (FP.i2d ib)), .second, .val (.double (FP.i2d ic)), .second, .val (.double (FP.i2d ie)), .second, .val (.ref po), .unset, .unset, .unset, .unset, .unset, .unset, .unset, .unset, .unset, .unset, .unset, .unset, .unset, .unset, .unset, .unset, .unset, .unset, .unset, .unset, .unset, .unset] [(.double (FP.ddiv sm (FP.l2d ct)))])) := r205.trans st206
        exact ⟨_, _, _, X206, N206, e206, ⟨fun z => absurd z h1, fun _ _ => ⟨sm, ct, rfl, ysm, hct⟩, fun _ z => absurd h2 z⟩, r207⟩
      · skip
        have r208 : Steps p.tables e below S0 (TM5.setTop (mkF m 221 #[.val (.int p1), .val (.int p2), .val (.int p3), .val (.int p4), .val (.int p5), .val (.int rA), .val (.int rB), .val (.int rC), .val (.int rU), .val (.int q), .val (.double (FP.i2d sa)), .second, .val (.double (FP.i2d sb)), .second, .val (.double (FP.i2d sc)), .second, .val (.double (FP.i2d ia)), .second, .val (.double (FP.i2d ib)), .second, .val (.double (FP.i2d ic)), .second, .val (.double (FP.i2d ie)), .second, .val (.ref po), .unset, .unset, .unset, .unset, .unset, .unset, .unset, .unset, .unset, .unset, .unset, .unset, .unset, .unset, .unset, .unset, .unset, .unset, .unset, .unset, .unset, .unset] [(.int q), (.ref po)])) := by
          refine rM5.trans ?_
          show Steps p.tables e below (TM5.setTop (mkF m 217 #[.val (.int p1), .val (.int p2), .val (.int p3), .val (.int p4), .val (.int p5), .val (.int rA), .val (.int rB), .val (.int rC), .val (.int rU), .val (.int q), .val (.double (FP.i2d sa)), .second, .val (.double (FP.i2d sb)), .second, .val (.double (FP.i2d sc)), .second, .val (.double (FP.i2d ia)), .second, .val (.double (FP.i2d ib)), .second, .val (.double (FP.i2d ic)), .second, .val (.double (FP.i2d ie)), .second, .val (.ref po), .unset, .unset, .unset, .unset, .unset, .unset, .unset, .unset, .unset, .unset, .unset, .unset, .unset, .unset, .unset, .unset, .unset, .unset, .unset, .unset, .unset, .unset] [])) _
          refine XS.aload XM5.here hx rfl (hb hby at_217) rfl rfl ?_
          show Steps p.tables e below (TM5.setTop (mkF m 219 #[.val (.int p1), .val (.int p2), .val (.int p3), .val (.int p4), .val (.int p5), .val (.int rA), .val (.int rB), .val (.int rC), .val (.int rU), .val (.int q), .val (.double (FP.i2d sa)), .second, .val (.double (FP.i2d sb)), .second, .val (.double (FP.i2d sc)), .second, .val (.double (FP.i2d ia)), .second, .val (.double (FP.i2d ib)), .second, .val (.double (FP.i2d ic)), .second, .val (.double (FP.i2d ie)), .second, .val (.ref po), .unset, .unset, .unset, .unset, .unset, .unset, .unset, .unset, .unset, .unset, .unset, .unset, .unset, .unset, .unset, .unset, .unset, .unset, .unset, .unset, .unset, .unset] [(.ref po)])) _
          refine XS.iload XM5.here hx rfl (hb hby at_219) rfl ?_
          exact Steps.refl _
        obtain ⟨cq209, kq209, q209a, q209b, q209c⟩ := isOf hZ rfl hPS5.exa
        obtain ⟨_, _, ⟨T209, L209, k209, n209⟩, -, X209, ⟨Lc209, hQ209, l209, y209, z209⟩, st209⟩ := XM5.virtualBack hx (y := (⟨"com/example/pivotline/pivotline/Pseudocosts", "down", "(I)D"⟩ : MethodName)) (z := (⟨"com/example/pivotline/pivotline/Pseudocosts", "down", "(I)D"⟩ : MethodName)) hown (mvT hZ (hw _ (List.mem_of_getElem? (i := 19) rfl))) (mvT hZ (hw _ (List.mem_of_getElem? (i := 20) rfl))) (notFace_of_selects (args := #[]) (mvT hZ (hw _ (List.mem_of_getElem? (i := 22) rfl)))) (mvT hZ (hw _ (List.mem_of_getElem? (i := 22) rfl))) (mvT hZ (hw _ (List.mem_of_getElem? (i := 21) rfl))) (by decide) (backOf (W := 0) (rmU2 l Z a0 hw [] po q a1 a2 a3 a4 SD4 SU5 CD4 CU5 AD4 AU5 ND4 NU5 TM5.heap n0 hPS5.sz hPS5 hq2 (by omega) h1 h2) hZ (hw _ (List.mem_of_getElem? (i := 23) rfl)) (hw _ (List.mem_of_getElem? (i := 2) rfl)) (by decide) (by decide)) q209a q209c (g := (mkF m 221 #[.val (.int p1), .val (.int p2), .val (.int p3), .val (.int p4), .val (.int p5), .val (.int rA), .val (.int rB), .val (.int rC), .val (.int rU), .val (.int q), .val (.double (FP.i2d sa)), .second, .val (.double (FP.i2d sb)), .second, .val (.double (FP.i2d sc)), .second, .val (.double (FP.i2d ia)), .second, .val (.double (FP.i2d ib)), .second, .val (.double (FP.i2d ic)), .second, .val (.double (FP.i2d ie)), .second, .val (.ref po), .unset, .unset, .unset, .unset, .unset, .unset, .unset, .unset, .unset, .unset, .unset, .unset, .unset, .unset, .unset, .unset, .unset, .unset, .unset, .unset, .unset, .unset] [(.int q), (.ref po)])) rfl (by rw [hml]; rfl) (Steps.refl _) (argsL := [(.int q)]) (rest := []) (lenOf pd_4 rfl) rfl (by show 2 * 0 + _ ≤ _; exact Nat.le_of_eq rfl) (hb hby at_221) (fun _ _ => ⟨rfl, rfl, (by decide : ((0 + 1) + 4) + 0 ≤ _), (by decide : ((0 + 8) + 8) + 0 ≤ _)⟩)
        dsimp only [Pt.U, Pt.locs, Pt.cells, Pt.slots] at X209 l209 y209 z209 st209 hQ209
        subst l209 y209 z209
        obtain ⟨rfl, Nq209, e209⟩ := hQ209
        have N209 := Fr.app NM5 Nq209
        have r210 : Steps p.tables e below S0 (T209.setTop (mkF m 224 #[.val (.int p1), .val (.int p2), .val (.int p3), .val (.int p4), .val (.int p5), .val (.int rA), .val (.int rB), .val (.int rC), .val (.int rU), .val (.int q), .val (.double (FP.i2d sa)), .second, .val (.double (FP.i2d sb)), .second, .val (.double (FP.i2d sc)), .second, .val (.double (FP.i2d ia)), .second, .val (.double (FP.i2d ib)), .second, .val (.double (FP.i2d ic)), .second, .val (.double (FP.i2d ie)), .second, .val (.ref po), .unset, .unset, .unset, .unset, .unset, .unset, .unset, .unset, .unset, .unset, .unset, .unset, .unset, .unset, .unset, .unset, .unset, .unset, .unset, .unset, .unset, .unset] [(.double FP.dconst1)])) := r208.trans st209
        exact ⟨_, _, _, X209, N209, e209, ⟨fun z => absurd z h1, fun _ z => absurd z h2, fun _ _ => rfl⟩, r210⟩
  have r211 : Steps p.tables e below S0 (TG.setTop (mkF m 228 #[.val (.int p1), .val (.int p2), .val (.int p3), .val (.int p4), .val (.int p5), .val (.int rA), .val (.int rB), .val (.int rC), .val (.int rU), .val (.int q), .val (.double (FP.i2d sa)), .second, .val (.double (FP.i2d sb)), .second, .val (.double (FP.i2d sc)), .second, .val (.double (FP.i2d ia)), .second, .val (.double (FP.i2d ib)), .second, .val (.double (FP.i2d ic)), .second, .val (.double (FP.i2d ie)), .second, .val (.ref po), .val (.double gg), .second, .unset, .unset, .unset, .unset, .unset, .unset, .unset, .unset, .unset, .unset, .unset, .unset, .unset, .unset, .unset, .unset, .unset, .unset, .unset, .unset] [(.double (FP.i2d ia))])) := by
    refine rG.trans ?_
    show Steps p.tables e below (TG.setTop (mkF m 224 #[.val (.int p1), .val (.int p2), .val (.int p3), .val (.int p4), .val (.int p5), .val (.int rA), .val (.int rB), .val (.int rC), .val (.int rU), .val (.int q), .val (.double (FP.i2d sa)), .second, .val (.double (FP.i2d sb)), .second, .val (.double (FP.i2d sc)), .second, .val (.double (FP.i2d ia)), .second, .val (.double (FP.i2d ib)), .second, .val (.double (FP.i2d ic)), .second, .val (.double (FP.i2d ie)), .second, .val (.ref po), .unset, .unset, .unset, .unset, .unset, .unset, .unset, .unset, .unset, .unset, .unset, .unset, .unset, .unset, .unset, .unset, .unset, .unset, .unset, .unset, .unset, .unset] [(.double gg)])) _
    refine XS.dstore XG.here hx rfl (hb hby at_224) rfl (l' := #[.val (.int p1), .val (.int p2), .val (.int p3), .val (.int p4), .val (.int p5), .val (.int rA), .val (.int rB), .val (.int rC), .val (.int rU), .val (.int q), .val (.double (FP.i2d sa)), .second, .val (.double (FP.i2d sb)), .second, .val (.double (FP.i2d sc)), .second, .val (.double (FP.i2d ia)), .second, .val (.double (FP.i2d ib)), .second, .val (.double (FP.i2d ic)), .second, .val (.double (FP.i2d ie)), .second, .val (.ref po), .val (.double gg), .second, .unset, .unset, .unset, .unset, .unset, .unset, .unset, .unset, .unset, .unset, .unset, .unset, .unset, .unset, .unset, .unset, .unset, .unset, .unset, .unset]) rfl ?_
    show Steps p.tables e below (TG.setTop (mkF m 226 #[.val (.int p1), .val (.int p2), .val (.int p3), .val (.int p4), .val (.int p5), .val (.int rA), .val (.int rB), .val (.int rC), .val (.int rU), .val (.int q), .val (.double (FP.i2d sa)), .second, .val (.double (FP.i2d sb)), .second, .val (.double (FP.i2d sc)), .second, .val (.double (FP.i2d ia)), .second, .val (.double (FP.i2d ib)), .second, .val (.double (FP.i2d ic)), .second, .val (.double (FP.i2d ie)), .second, .val (.ref po), .val (.double gg), .second, .unset, .unset, .unset, .unset, .unset, .unset, .unset, .unset, .unset, .unset, .unset, .unset, .unset, .unset, .unset, .unset, .unset, .unset, .unset, .unset] [])) _
    refine XS.dload XG.here hx rfl (hb hby at_226) rfl ?_
    exact Steps.refl _
  obtain ⟨_, _, ⟨T212, L212, k212, n212⟩, -, X212, ⟨Lc212, hQ212, l212, y212, z212⟩, st212⟩ := Jvm.LawKit.callS XG hx (y := (⟨"com/example/pivotline/pivotline/PseudocostsDownPinLaw", "pos", "(D)D"⟩ : MethodName)) hown (mvT hZ (hw _ (List.mem_of_getElem? (i := 31) rfl))) (mvT hZ (hw _ (List.mem_of_getElem? (i := 32) rfl))) (mvT hZ (hw _ (List.mem_of_getElem? (i := 33) rfl))) (mvT hZ (hw _ (List.mem_of_getElem? (i := 34) rfl))) (by decide) (backOf (W := 0) (rmZ l Z a0 hw [] (FP.i2d ia) ia.toInt TM5.heap n0 hPS5.sz (Dy.i2d ia)) hZ (hw _ (List.mem_of_getElem? (i := 34) rfl)) (hw _ (List.mem_of_getElem? (i := 33) rfl)) (by decide) (by decide)) (g := (mkF m 228 #[.val (.int p1), .val (.int p2), .val (.int p3), .val (.int p4), .val (.int p5), .val (.int rA), .val (.int rB), .val (.int rC), .val (.int rU), .val (.int q), .val (.double (FP.i2d sa)), .second, .val (.double (FP.i2d sb)), .second, .val (.double (FP.i2d sc)), .second, .val (.double (FP.i2d ia)), .second, .val (.double (FP.i2d ib)), .second, .val (.double (FP.i2d ic)), .second, .val (.double (FP.i2d ie)), .second, .val (.ref po), .val (.double gg), .second, .unset, .unset, .unset, .unset, .unset, .unset, .unset, .unset, .unset, .unset, .unset, .unset, .unset, .unset, .unset, .unset, .unset, .unset, .unset, .unset] [(.double (FP.i2d ia))])) rfl (by rw [hml]; rfl) (argsL := [(.double (FP.i2d ia))]) (rest := []) (lenOf pd_5 rfl) rfl (by show 2 * 0 + _ ≤ _; exact Nat.le_of_eq rfl) (hb hby at_228) (fun _ _ => ⟨rfl, eG, (by decide : (((0 + 1) + 4) + 0) + 0 ≤ _), (by decide : (((0 + 8) + 8) + 0) + 0 ≤ _)⟩)
  dsimp only [Pt.U, Pt.locs, Pt.cells, Pt.slots] at X212 l212 y212 z212 st212 hQ212
  subst l212 y212 z212
  obtain ⟨ma, rfl, yma, Nq212, e212⟩ := hQ212
  have N212 := Fr.app NG Nq212
  have r213 : Steps p.tables e below S0 (T212.setTop (mkF m 231 #[.val (.int p1), .val (.int p2), .val (.int p3), .val (.int p4), .val (.int p5), .val (.int rA), .val (.int rB), .val (.int rC), .val (.int rU), .val (.int q), .val (.double (FP.i2d sa)), .second, .val (.double (FP.i2d sb)), .second, .val (.double (FP.i2d sc)), .second, .val (.double (FP.i2d ia)), .second, .val (.double (FP.i2d ib)), .second, .val (.double (FP.i2d ic)), .second, .val (.double (FP.i2d ie)), .second, .val (.ref po), .val (.double gg), .second, .unset, .unset, .unset, .unset, .unset, .unset, .unset, .unset, .unset, .unset, .unset, .unset, .unset, .unset, .unset, .unset, .unset, .unset, .unset, .unset] [(.double ma)])) := r211.trans (st212 _ (Steps.refl _))
  have yma8 : Dy (max ia.toInt 0 * 8) 3 ma := (yma.scale 3).cast (by rfl) rfl
  obtain ⟨ppa, hppa⟩ : ∃ z, FP.ddiv ma (FP.i2d sa) = z := ⟨_, rfl⟩
  have yppa : Dy PA 3 ppa := hppa ▸ (yma8.div (Dy.i2d sa) hpa hPA (by omega) (by decide))
  have r214 : Steps p.tables e below S0 (T212.setTop (mkF m 238 #[.val (.int p1), .val (.int p2), .val (.int p3), .val (.int p4), .val (.int p5), .val (.int rA), .val (.int rB), .val (.int rC), .val (.int rU), .val (.int q), .val (.double (FP.i2d sa)), .second, .val (.double (FP.i2d sb)), .second, .val (.double (FP.i2d sc)), .second, .val (.double (FP.i2d ia)), .second, .val (.double (FP.i2d ib)), .second, .val (.double (FP.i2d ic)), .second, .val (.double (FP.i2d ie)), .second, .val (.ref po), .val (.double gg), .second, .val (.double ppa), .second, .unset, .unset, .unset, .unset, .unset, .unset, .unset, .unset, .unset, .unset, .unset, .unset, .unset, .unset, .unset, .unset, .unset, .unset] [(.double (FP.i2d ib))])) := by
    refine r213.trans ?_
    show Steps p.tables e below (T212.setTop (mkF m 231 #[.val (.int p1), .val (.int p2), .val (.int p3), .val (.int p4), .val (.int p5), .val (.int rA), .val (.int rB), .val (.int rC), .val (.int rU), .val (.int q), .val (.double (FP.i2d sa)), .second, .val (.double (FP.i2d sb)), .second, .val (.double (FP.i2d sc)), .second, .val (.double (FP.i2d ia)), .second, .val (.double (FP.i2d ib)), .second, .val (.double (FP.i2d ic)), .second, .val (.double (FP.i2d ie)), .second, .val (.ref po), .val (.double gg), .second, .unset, .unset, .unset, .unset, .unset, .unset, .unset, .unset, .unset, .unset, .unset, .unset, .unset, .unset, .unset, .unset, .unset, .unset, .unset, .unset] [(.double ma)])) _
    refine XS.dload X212.here hx rfl (hb hby at_231) rfl ?_
    show Steps p.tables e below (T212.setTop (mkF m 233 #[.val (.int p1), .val (.int p2), .val (.int p3), .val (.int p4), .val (.int p5), .val (.int rA), .val (.int rB), .val (.int rC), .val (.int rU), .val (.int q), .val (.double (FP.i2d sa)), .second, .val (.double (FP.i2d sb)), .second, .val (.double (FP.i2d sc)), .second, .val (.double (FP.i2d ia)), .second, .val (.double (FP.i2d ib)), .second, .val (.double (FP.i2d ic)), .second, .val (.double (FP.i2d ie)), .second, .val (.ref po), .val (.double gg), .second, .unset, .unset, .unset, .unset, .unset, .unset, .unset, .unset, .unset, .unset, .unset, .unset, .unset, .unset, .unset, .unset, .unset, .unset, .unset, .unset] [(.double (FP.i2d sa)), (.double ma)])) _
    refine XS.ddivS X212.here hx rfl (hb hby at_233) rfl (by rw [hppa]; exact yppa.noNaN) hppa ?_
    show Steps p.tables e below (T212.setTop (mkF m 234 #[.val (.int p1), .val (.int p2), .val (.int p3), .val (.int p4), .val (.int p5), .val (.int rA), .val (.int rB), .val (.int rC), .val (.int rU), .val (.int q), .val (.double (FP.i2d sa)), .second, .val (.double (FP.i2d sb)), .second, .val (.double (FP.i2d sc)), .second, .val (.double (FP.i2d ia)), .second, .val (.double (FP.i2d ib)), .second, .val (.double (FP.i2d ic)), .second, .val (.double (FP.i2d ie)), .second, .val (.ref po), .val (.double gg), .second, .unset, .unset, .unset, .unset, .unset, .unset, .unset, .unset, .unset, .unset, .unset, .unset, .unset, .unset, .unset, .unset, .unset, .unset, .unset, .unset] [(.double ppa)])) _
    refine XS.dstore X212.here hx rfl (hb hby at_234) rfl (l' := #[.val (.int p1), .val (.int p2), .val (.int p3), .val (.int p4), .val (.int p5), .val (.int rA), .val (.int rB), .val (.int rC), .val (.int rU), .val (.int q), .val (.double (FP.i2d sa)), .second, .val (.double (FP.i2d sb)), .second, .val (.double (FP.i2d sc)), .second, .val (.double (FP.i2d ia)), .second, .val (.double (FP.i2d ib)), .second, .val (.double (FP.i2d ic)), .second, .val (.double (FP.i2d ie)), .second, .val (.ref po), .val (.double gg), .second, .val (.double ppa), .second, .unset, .unset, .unset, .unset, .unset, .unset, .unset, .unset, .unset, .unset, .unset, .unset, .unset, .unset, .unset, .unset, .unset, .unset]) rfl ?_
    show Steps p.tables e below (T212.setTop (mkF m 236 #[.val (.int p1), .val (.int p2), .val (.int p3), .val (.int p4), .val (.int p5), .val (.int rA), .val (.int rB), .val (.int rC), .val (.int rU), .val (.int q), .val (.double (FP.i2d sa)), .second, .val (.double (FP.i2d sb)), .second, .val (.double (FP.i2d sc)), .second, .val (.double (FP.i2d ia)), .second, .val (.double (FP.i2d ib)), .second, .val (.double (FP.i2d ic)), .second, .val (.double (FP.i2d ie)), .second, .val (.ref po), .val (.double gg), .second, .val (.double ppa), .second, .unset, .unset, .unset, .unset, .unset, .unset, .unset, .unset, .unset, .unset, .unset, .unset, .unset, .unset, .unset, .unset, .unset, .unset] [])) _
    refine XS.dload X212.here hx rfl (hb hby at_236) rfl ?_
    exact Steps.refl _
  obtain ⟨_, _, ⟨T215, L215, k215, n215⟩, -, X215, ⟨Lc215, hQ215, l215, y215, z215⟩, st215⟩ := Jvm.LawKit.callS X212 hx (y := (⟨"com/example/pivotline/pivotline/PseudocostsDownPinLaw", "pos", "(D)D"⟩ : MethodName)) hown (mvT hZ (hw _ (List.mem_of_getElem? (i := 31) rfl))) (mvT hZ (hw _ (List.mem_of_getElem? (i := 32) rfl))) (mvT hZ (hw _ (List.mem_of_getElem? (i := 33) rfl))) (mvT hZ (hw _ (List.mem_of_getElem? (i := 34) rfl))) (by decide) (backOf (W := 0) (rmZ l Z a0 hw [] (FP.i2d ib) ib.toInt TM5.heap n0 hPS5.sz (Dy.i2d ib)) hZ (hw _ (List.mem_of_getElem? (i := 34) rfl)) (hw _ (List.mem_of_getElem? (i := 33) rfl)) (by decide) (by decide)) (g := (mkF m 238 #[.val (.int p1), .val (.int p2), .val (.int p3), .val (.int p4), .val (.int p5), .val (.int rA), .val (.int rB), .val (.int rC), .val (.int rU), .val (.int q), .val (.double (FP.i2d sa)), .second, .val (.double (FP.i2d sb)), .second, .val (.double (FP.i2d sc)), .second, .val (.double (FP.i2d ia)), .second, .val (.double (FP.i2d ib)), .second, .val (.double (FP.i2d ic)), .second, .val (.double (FP.i2d ie)), .second, .val (.ref po), .val (.double gg), .second, .val (.double ppa), .second, .unset, .unset, .unset, .unset, .unset, .unset, .unset, .unset, .unset, .unset, .unset, .unset, .unset, .unset, .unset, .unset, .unset, .unset] [(.double (FP.i2d ib))])) rfl (by rw [hml]; rfl) (argsL := [(.double (FP.i2d ib))]) (rest := []) (lenOf pd_5 rfl) rfl (by show 2 * 0 + _ ≤ _; exact Nat.le_of_eq rfl) (hb hby at_238) (fun _ _ => ⟨rfl, e212, (by decide : ((((0 + 1) + 4) + 0) + 0) + 0 ≤ _), (by decide : ((((0 + 8) + 8) + 0) + 0) + 0 ≤ _)⟩)
  dsimp only [Pt.U, Pt.locs, Pt.cells, Pt.slots] at X215 l215 y215 z215 st215 hQ215
  subst l215 y215 z215
  obtain ⟨mb, rfl, ymb, Nq215, e215⟩ := hQ215
  have N215 := Fr.app N212 Nq215
  have r216 : Steps p.tables e below S0 (T215.setTop (mkF m 241 #[.val (.int p1), .val (.int p2), .val (.int p3), .val (.int p4), .val (.int p5), .val (.int rA), .val (.int rB), .val (.int rC), .val (.int rU), .val (.int q), .val (.double (FP.i2d sa)), .second, .val (.double (FP.i2d sb)), .second, .val (.double (FP.i2d sc)), .second, .val (.double (FP.i2d ia)), .second, .val (.double (FP.i2d ib)), .second, .val (.double (FP.i2d ic)), .second, .val (.double (FP.i2d ie)), .second, .val (.ref po), .val (.double gg), .second, .val (.double ppa), .second, .unset, .unset, .unset, .unset, .unset, .unset, .unset, .unset, .unset, .unset, .unset, .unset, .unset, .unset, .unset, .unset, .unset, .unset] [(.double mb)])) := r214.trans (st215 _ (Steps.refl _))
  have ymb8 : Dy (max ib.toInt 0 * 8) 3 mb := (ymb.scale 3).cast (by rfl) rfl
  obtain ⟨ppb, hppb⟩ : ∃ z, FP.ddiv mb (FP.i2d sb) = z := ⟨_, rfl⟩
  have yppb : Dy PB 3 ppb := hppb ▸ (ymb8.div (Dy.i2d sb) hpb hPB (by omega) (by decide))
  have r217 : Steps p.tables e below S0 (T215.setTop (mkF m 248 #[.val (.int p1), .val (.int p2), .val (.int p3), .val (.int p4), .val (.int p5), .val (.int rA), .val (.int rB), .val (.int rC), .val (.int rU), .val (.int q), .val (.double (FP.i2d sa)), .second, .val (.double (FP.i2d sb)), .second, .val (.double (FP.i2d sc)), .second, .val (.double (FP.i2d ia)), .second, .val (.double (FP.i2d ib)), .second, .val (.double (FP.i2d ic)), .second, .val (.double (FP.i2d ie)), .second, .val (.ref po), .val (.double gg), .second, .val (.double ppa), .second, .val (.double ppb), .second, .unset, .unset, .unset, .unset, .unset, .unset, .unset, .unset, .unset, .unset, .unset, .unset, .unset, .unset, .unset, .unset] [(.double (FP.i2d ic))])) := by
    refine r216.trans ?_
    show Steps p.tables e below (T215.setTop (mkF m 241 #[.val (.int p1), .val (.int p2), .val (.int p3), .val (.int p4), .val (.int p5), .val (.int rA), .val (.int rB), .val (.int rC), .val (.int rU), .val (.int q), .val (.double (FP.i2d sa)), .second, .val (.double (FP.i2d sb)), .second, .val (.double (FP.i2d sc)), .second, .val (.double (FP.i2d ia)), .second, .val (.double (FP.i2d ib)), .second, .val (.double (FP.i2d ic)), .second, .val (.double (FP.i2d ie)), .second, .val (.ref po), .val (.double gg), .second, .val (.double ppa), .second, .unset, .unset, .unset, .unset, .unset, .unset, .unset, .unset, .unset, .unset, .unset, .unset, .unset, .unset, .unset, .unset, .unset, .unset] [(.double mb)])) _
    refine XS.dload X215.here hx rfl (hb hby at_241) rfl ?_
    show Steps p.tables e below (T215.setTop (mkF m 243 #[.val (.int p1), .val (.int p2), .val (.int p3), .val (.int p4), .val (.int p5), .val (.int rA), .val (.int rB), .val (.int rC), .val (.int rU), .val (.int q), .val (.double (FP.i2d sa)), .second, .val (.double (FP.i2d sb)), .second, .val (.double (FP.i2d sc)), .second, .val (.double (FP.i2d ia)), .second, .val (.double (FP.i2d ib)), .second, .val (.double (FP.i2d ic)), .second, .val (.double (FP.i2d ie)), .second, .val (.ref po), .val (.double gg), .second, .val (.double ppa), .second, .unset, .unset, .unset, .unset, .unset, .unset, .unset, .unset, .unset, .unset, .unset, .unset, .unset, .unset, .unset, .unset, .unset, .unset] [(.double (FP.i2d sb)), (.double mb)])) _
    refine XS.ddivS X215.here hx rfl (hb hby at_243) rfl (by rw [hppb]; exact yppb.noNaN) hppb ?_
    show Steps p.tables e below (T215.setTop (mkF m 244 #[.val (.int p1), .val (.int p2), .val (.int p3), .val (.int p4), .val (.int p5), .val (.int rA), .val (.int rB), .val (.int rC), .val (.int rU), .val (.int q), .val (.double (FP.i2d sa)), .second, .val (.double (FP.i2d sb)), .second, .val (.double (FP.i2d sc)), .second, .val (.double (FP.i2d ia)), .second, .val (.double (FP.i2d ib)), .second, .val (.double (FP.i2d ic)), .second, .val (.double (FP.i2d ie)), .second, .val (.ref po), .val (.double gg), .second, .val (.double ppa), .second, .unset, .unset, .unset, .unset, .unset, .unset, .unset, .unset, .unset, .unset, .unset, .unset, .unset, .unset, .unset, .unset, .unset, .unset] [(.double ppb)])) _
    refine XS.dstore X215.here hx rfl (hb hby at_244) rfl (l' := #[.val (.int p1), .val (.int p2), .val (.int p3), .val (.int p4), .val (.int p5), .val (.int rA), .val (.int rB), .val (.int rC), .val (.int rU), .val (.int q), .val (.double (FP.i2d sa)), .second, .val (.double (FP.i2d sb)), .second, .val (.double (FP.i2d sc)), .second, .val (.double (FP.i2d ia)), .second, .val (.double (FP.i2d ib)), .second, .val (.double (FP.i2d ic)), .second, .val (.double (FP.i2d ie)), .second, .val (.ref po), .val (.double gg), .second, .val (.double ppa), .second, .val (.double ppb), .second, .unset, .unset, .unset, .unset, .unset, .unset, .unset, .unset, .unset, .unset, .unset, .unset, .unset, .unset, .unset, .unset]) rfl ?_
    show Steps p.tables e below (T215.setTop (mkF m 246 #[.val (.int p1), .val (.int p2), .val (.int p3), .val (.int p4), .val (.int p5), .val (.int rA), .val (.int rB), .val (.int rC), .val (.int rU), .val (.int q), .val (.double (FP.i2d sa)), .second, .val (.double (FP.i2d sb)), .second, .val (.double (FP.i2d sc)), .second, .val (.double (FP.i2d ia)), .second, .val (.double (FP.i2d ib)), .second, .val (.double (FP.i2d ic)), .second, .val (.double (FP.i2d ie)), .second, .val (.ref po), .val (.double gg), .second, .val (.double ppa), .second, .val (.double ppb), .second, .unset, .unset, .unset, .unset, .unset, .unset, .unset, .unset, .unset, .unset, .unset, .unset, .unset, .unset, .unset, .unset] [])) _
    refine XS.dload X215.here hx rfl (hb hby at_246) rfl ?_
    exact Steps.refl _
  obtain ⟨_, _, ⟨T218, L218, k218, n218⟩, -, X218, ⟨Lc218, hQ218, l218, y218, z218⟩, st218⟩ := Jvm.LawKit.callS X215 hx (y := (⟨"com/example/pivotline/pivotline/PseudocostsDownPinLaw", "pos", "(D)D"⟩ : MethodName)) hown (mvT hZ (hw _ (List.mem_of_getElem? (i := 31) rfl))) (mvT hZ (hw _ (List.mem_of_getElem? (i := 32) rfl))) (mvT hZ (hw _ (List.mem_of_getElem? (i := 33) rfl))) (mvT hZ (hw _ (List.mem_of_getElem? (i := 34) rfl))) (by decide) (backOf (W := 0) (rmZ l Z a0 hw [] (FP.i2d ic) ic.toInt TM5.heap n0 hPS5.sz (Dy.i2d ic)) hZ (hw _ (List.mem_of_getElem? (i := 34) rfl)) (hw _ (List.mem_of_getElem? (i := 33) rfl)) (by decide) (by decide)) (g := (mkF m 248 #[.val (.int p1), .val (.int p2), .val (.int p3), .val (.int p4), .val (.int p5), .val (.int rA), .val (.int rB), .val (.int rC), .val (.int rU), .val (.int q), .val (.double (FP.i2d sa)), .second, .val (.double (FP.i2d sb)), .second, .val (.double (FP.i2d sc)), .second, .val (.double (FP.i2d ia)), .second, .val (.double (FP.i2d ib)), .second, .val (.double (FP.i2d ic)), .second, .val (.double (FP.i2d ie)), .second, .val (.ref po), .val (.double gg), .second, .val (.double ppa), .second, .val (.double ppb), .second, .unset, .unset, .unset, .unset, .unset, .unset, .unset, .unset, .unset, .unset, .unset, .unset, .unset, .unset, .unset, .unset] [(.double (FP.i2d ic))])) rfl (by rw [hml]; rfl) (argsL := [(.double (FP.i2d ic))]) (rest := []) (lenOf pd_5 rfl) rfl (by show 2 * 0 + _ ≤ _; exact Nat.le_of_eq rfl) (hb hby at_248) (fun _ _ => ⟨rfl, e215, (by decide : (((((0 + 1) + 4) + 0) + 0) + 0) + 0 ≤ _), (by decide : (((((0 + 8) + 8) + 0) + 0) + 0) + 0 ≤ _)⟩)
  dsimp only [Pt.U, Pt.locs, Pt.cells, Pt.slots] at X218 l218 y218 z218 st218 hQ218
  subst l218 y218 z218
  obtain ⟨mc, rfl, ymc, Nq218, e218⟩ := hQ218
  have N218 := Fr.app N215 Nq218
  have r219 : Steps p.tables e below S0 (T218.setTop (mkF m 251 #[.val (.int p1), .val (.int p2), .val (.int p3), .val (.int p4), .val (.int p5), .val (.int rA), .val (.int rB), .val (.int rC), .val (.int rU), .val (.int q), .val (.double (FP.i2d sa)), .second, .val (.double (FP.i2d sb)), .second, .val (.double (FP.i2d sc)), .second, .val (.double (FP.i2d ia)), .second, .val (.double (FP.i2d ib)), .second, .val (.double (FP.i2d ic)), .second, .val (.double (FP.i2d ie)), .second, .val (.ref po), .val (.double gg), .second, .val (.double ppa), .second, .val (.double ppb), .second, .unset, .unset, .unset, .unset, .unset, .unset, .unset, .unset, .unset, .unset, .unset, .unset, .unset, .unset, .unset, .unset] [(.double mc)])) := r217.trans (st218 _ (Steps.refl _))
  have ymc8 : Dy (max ic.toInt 0 * 8) 3 mc := (ymc.scale 3).cast (by rfl) rfl
  obtain ⟨ppc, hppc⟩ : ∃ z, FP.ddiv mc (FP.i2d sc) = z := ⟨_, rfl⟩
  have yppc : Dy PC 3 ppc := hppc ▸ (ymc8.div (Dy.i2d sc) hpc hPC (by omega) (by decide))
  have r220 : Steps p.tables e below S0 (T218.setTop (mkF m 258 #[.val (.int p1), .val (.int p2), .val (.int p3), .val (.int p4), .val (.int p5), .val (.int rA), .val (.int rB), .val (.int rC), .val (.int rU), .val (.int q), .val (.double (FP.i2d sa)), .second, .val (.double (FP.i2d sb)), .second, .val (.double (FP.i2d sc)), .second, .val (.double (FP.i2d ia)), .second, .val (.double (FP.i2d ib)), .second, .val (.double (FP.i2d ic)), .second, .val (.double (FP.i2d ie)), .second, .val (.ref po), .val (.double gg), .second, .val (.double ppa), .second, .val (.double ppb), .second, .val (.double ppc), .second, .unset, .unset, .unset, .unset, .unset, .unset, .unset, .unset, .unset, .unset, .unset, .unset, .unset, .unset] [(.int rA)])) := by
    refine r219.trans ?_
    show Steps p.tables e below (T218.setTop (mkF m 251 #[.val (.int p1), .val (.int p2), .val (.int p3), .val (.int p4), .val (.int p5), .val (.int rA), .val (.int rB), .val (.int rC), .val (.int rU), .val (.int q), .val (.double (FP.i2d sa)), .second, .val (.double (FP.i2d sb)), .second, .val (.double (FP.i2d sc)), .second, .val (.double (FP.i2d ia)), .second, .val (.double (FP.i2d ib)), .second, .val (.double (FP.i2d ic)), .second, .val (.double (FP.i2d ie)), .second, .val (.ref po), .val (.double gg), .second, .val (.double ppa), .second, .val (.double ppb), .second, .unset, .unset, .unset, .unset, .unset, .unset, .unset, .unset, .unset, .unset, .unset, .unset, .unset, .unset, .unset, .unset] [(.double mc)])) _
    refine XS.dload X218.here hx rfl (hb hby at_251) rfl ?_
    show Steps p.tables e below (T218.setTop (mkF m 253 #[.val (.int p1), .val (.int p2), .val (.int p3), .val (.int p4), .val (.int p5), .val (.int rA), .val (.int rB), .val (.int rC), .val (.int rU), .val (.int q), .val (.double (FP.i2d sa)), .second, .val (.double (FP.i2d sb)), .second, .val (.double (FP.i2d sc)), .second, .val (.double (FP.i2d ia)), .second, .val (.double (FP.i2d ib)), .second, .val (.double (FP.i2d ic)), .second, .val (.double (FP.i2d ie)), .second, .val (.ref po), .val (.double gg), .second, .val (.double ppa), .second, .val (.double ppb), .second, .unset, .unset, .unset, .unset, .unset, .unset, .unset, .unset, .unset, .unset, .unset, .unset, .unset, .unset, .unset, .unset] [(.double (FP.i2d sc)), (.double mc)])) _
    refine XS.ddivS X218.here hx rfl (hb hby at_253) rfl (by rw [hppc]; exact yppc.noNaN) hppc ?_
    show Steps p.tables e below (T218.setTop (mkF m 254 #[.val (.int p1), .val (.int p2), .val (.int p3), .val (.int p4), .val (.int p5), .val (.int rA), .val (.int rB), .val (.int rC), .val (.int rU), .val (.int q), .val (.double (FP.i2d sa)), .second, .val (.double (FP.i2d sb)), .second, .val (.double (FP.i2d sc)), .second, .val (.double (FP.i2d ia)), .second, .val (.double (FP.i2d ib)), .second, .val (.double (FP.i2d ic)), .second, .val (.double (FP.i2d ie)), .second, .val (.ref po), .val (.double gg), .second, .val (.double ppa), .second, .val (.double ppb), .second, .unset, .unset, .unset, .unset, .unset, .unset, .unset, .unset, .unset, .unset, .unset, .unset, .unset, .unset, .unset, .unset] [(.double ppc)])) _
    refine XS.dstore X218.here hx rfl (hb hby at_254) rfl (l' := #[.val (.int p1), .val (.int p2), .val (.int p3), .val (.int p4), .val (.int p5), .val (.int rA), .val (.int rB), .val (.int rC), .val (.int rU), .val (.int q), .val (.double (FP.i2d sa)), .second, .val (.double (FP.i2d sb)), .second, .val (.double (FP.i2d sc)), .second, .val (.double (FP.i2d ia)), .second, .val (.double (FP.i2d ib)), .second, .val (.double (FP.i2d ic)), .second, .val (.double (FP.i2d ie)), .second, .val (.ref po), .val (.double gg), .second, .val (.double ppa), .second, .val (.double ppb), .second, .val (.double ppc), .second, .unset, .unset, .unset, .unset, .unset, .unset, .unset, .unset, .unset, .unset, .unset, .unset, .unset, .unset]) rfl ?_
    show Steps p.tables e below (T218.setTop (mkF m 256 #[.val (.int p1), .val (.int p2), .val (.int p3), .val (.int p4), .val (.int p5), .val (.int rA), .val (.int rB), .val (.int rC), .val (.int rU), .val (.int q), .val (.double (FP.i2d sa)), .second, .val (.double (FP.i2d sb)), .second, .val (.double (FP.i2d sc)), .second, .val (.double (FP.i2d ia)), .second, .val (.double (FP.i2d ib)), .second, .val (.double (FP.i2d ic)), .second, .val (.double (FP.i2d ie)), .second, .val (.ref po), .val (.double gg), .second, .val (.double ppa), .second, .val (.double ppb), .second, .val (.double ppc), .second, .unset, .unset, .unset, .unset, .unset, .unset, .unset, .unset, .unset, .unset, .unset, .unset, .unset, .unset] [])) _
    refine XS.iload X218.here hx rfl (hb hby at_256) rfl ?_
    exact Steps.refl _
  have r224 : Steps p.tables e below S0 (T218.setTop (mkF m 266 #[.val (.int p1), .val (.int p2), .val (.int p3), .val (.int p4), .val (.int p5), .val (.int rA), .val (.int rB), .val (.int rC), .val (.int rU), .val (.int q), .val (.double (FP.i2d sa)), .second, .val (.double (FP.i2d sb)), .second, .val (.double (FP.i2d sc)), .second, .val (.double (FP.i2d ia)), .second, .val (.double (FP.i2d ib)), .second, .val (.double (FP.i2d ic)), .second, .val (.double (FP.i2d ie)), .second, .val (.ref po), .val (.double gg), .second, .val (.double ppa), .second, .val (.double ppb), .second, .val (.double ppc), .second, .unset, .unset, .unset, .unset, .unset, .unset, .unset, .unset, .unset, .unset, .unset, .unset, .unset, .unset] [(.int (if rA = (0 : Int32) then (0 : Int32) else (1 : Int32)))])) := by
    refine r220.trans ?_
    by_cases hf221 : rA = (0 : Int32)
    · skip
      rw [show (if rA = (0 : Int32) then (0 : Int32) else (1 : Int32)) = (0 : Int32) from if_pos hf221]
      have q0 : Steps p.tables e below (T218.setTop (mkF m 258 #[.val (.int p1), .val (.int p2), .val (.int p3), .val (.int p4), .val (.int p5), .val (.int rA), .val (.int rB), .val (.int rC), .val (.int rU), .val (.int q), .val (.double (FP.i2d sa)), .second, .val (.double (FP.i2d sb)), .second, .val (.double (FP.i2d sc)), .second, .val (.double (FP.i2d ia)), .second, .val (.double (FP.i2d ib)), .second, .val (.double (FP.i2d ic)), .second, .val (.double (FP.i2d ie)), .second, .val (.ref po), .val (.double gg), .second, .val (.double ppa), .second, .val (.double ppb), .second, .val (.double ppc), .second, .unset, .unset, .unset, .unset, .unset, .unset, .unset, .unset, .unset, .unset, .unset, .unset, .unset, .unset] [(.int rA)])) (T218.setTop (mkF m 258 #[.val (.int p1), .val (.int p2), .val (.int p3), .val (.int p4), .val (.int p5), .val (.int rA), .val (.int rB), .val (.int rC), .val (.int rU), .val (.int q), .val (.double (FP.i2d sa)), .second, .val (.double (FP.i2d sb)), .second, .val (.double (FP.i2d sc)), .second, .val (.double (FP.i2d ia)), .second, .val (.double (FP.i2d ib)), .second, .val (.double (FP.i2d ic)), .second, .val (.double (FP.i2d ie)), .second, .val (.ref po), .val (.double gg), .second, .val (.double ppa), .second, .val (.double ppb), .second, .val (.double ppc), .second, .unset, .unset, .unset, .unset, .unset, .unset, .unset, .unset, .unset, .unset, .unset, .unset, .unset, .unset] [(.int rA)])) := Steps.refl _
      have r222 : Steps p.tables e below (T218.setTop (mkF m 258 #[.val (.int p1), .val (.int p2), .val (.int p3), .val (.int p4), .val (.int p5), .val (.int rA), .val (.int rB), .val (.int rC), .val (.int rU), .val (.int q), .val (.double (FP.i2d sa)), .second, .val (.double (FP.i2d sb)), .second, .val (.double (FP.i2d sc)), .second, .val (.double (FP.i2d ia)), .second, .val (.double (FP.i2d ib)), .second, .val (.double (FP.i2d ic)), .second, .val (.double (FP.i2d ie)), .second, .val (.ref po), .val (.double gg), .second, .val (.double ppa), .second, .val (.double ppb), .second, .val (.double ppc), .second, .unset, .unset, .unset, .unset, .unset, .unset, .unset, .unset, .unset, .unset, .unset, .unset, .unset, .unset] [(.int rA)])) (T218.setTop (mkF m 266 #[.val (.int p1), .val (.int p2), .val (.int p3), .val (.int p4), .val (.int p5), .val (.int rA), .val (.int rB), .val (.int rC), .val (.int rU), .val (.int q), .val (.double (FP.i2d sa)), .second, .val (.double (FP.i2d sb)), .second, .val (.double (FP.i2d sc)), .second, .val (.double (FP.i2d ia)), .second, .val (.double (FP.i2d ib)), .second, .val (.double (FP.i2d ic)), .second, .val (.double (FP.i2d ie)), .second, .val (.ref po), .val (.double gg), .second, .val (.double ppa), .second, .val (.double ppb), .second, .val (.double ppc), .second, .unset, .unset, .unset, .unset, .unset, .unset, .unset, .unset, .unset, .unset, .unset, .unset, .unset, .unset] [(.int (0 : Int32))])) := by
        refine q0.trans ?_
        show Steps p.tables e below (T218.setTop (mkF m 258 #[.val (.int p1), .val (.int p2), .val (.int p3), .val (.int p4), .val (.int p5), .val (.int rA), .val (.int rB), .val (.int rC), .val (.int rU), .val (.int q), .val (.double (FP.i2d sa)), .second, .val (.double (FP.i2d sb)), .second, .val (.double (FP.i2d sc)), .second, .val (.double (FP.i2d ia)), .second, .val (.double (FP.i2d ib)), .second, .val (.double (FP.i2d ic)), .second, .val (.double (FP.i2d ie)), .second, .val (.ref po), .val (.double gg), .second, .val (.double ppa), .second, .val (.double ppb), .second, .val (.double ppc), .second, .unset, .unset, .unset, .unset, .unset, .unset, .unset, .unset, .unset, .unset, .unset, .unset, .unset, .unset] [(.int rA)])) _
        refine XS.ifYes X218.here hx rfl (pc0 := 258) (pc' := 265) rfl (hb hby at_258) rfl ((if0 _ _).trans (teq hf221).1) (by decide) (by decide) ?_
        show Steps p.tables e below (T218.setTop (mkF m 265 #[.val (.int p1), .val (.int p2), .val (.int p3), .val (.int p4), .val (.int p5), .val (.int rA), .val (.int rB), .val (.int rC), .val (.int rU), .val (.int q), .val (.double (FP.i2d sa)), .second, .val (.double (FP.i2d sb)), .second, .val (.double (FP.i2d sc)), .second, .val (.double (FP.i2d ia)), .second, .val (.double (FP.i2d ib)), .second, .val (.double (FP.i2d ic)), .second, .val (.double (FP.i2d ie)), .second, .val (.ref po), .val (.double gg), .second, .val (.double ppa), .second, .val (.double ppb), .second, .val (.double ppc), .second, .unset, .unset, .unset, .unset, .unset, .unset, .unset, .unset, .unset, .unset, .unset, .unset, .unset, .unset] [])) _
        refine XS.iconst X218.here hx rfl (hb hby at_265) ?_
        exact Steps.refl _
      exact r222
    · skip
      rw [show (if rA = (0 : Int32) then (0 : Int32) else (1 : Int32)) = (1 : Int32) from if_neg hf221]
      have q0 : Steps p.tables e below (T218.setTop (mkF m 258 #[.val (.int p1), .val (.int p2), .val (.int p3), .val (.int p4), .val (.int p5), .val (.int rA), .val (.int rB), .val (.int rC), .val (.int rU), .val (.int q), .val (.double (FP.i2d sa)), .second, .val (.double (FP.i2d sb)), .second, .val (.double (FP.i2d sc)), .second, .val (.double (FP.i2d ia)), .second, .val (.double (FP.i2d ib)), .second, .val (.double (FP.i2d ic)), .second, .val (.double (FP.i2d ie)), .second, .val (.ref po), .val (.double gg), .second, .val (.double ppa), .second, .val (.double ppb), .second, .val (.double ppc), .second, .unset, .unset, .unset, .unset, .unset, .unset, .unset, .unset, .unset, .unset, .unset, .unset, .unset, .unset] [(.int rA)])) (T218.setTop (mkF m 258 #[.val (.int p1), .val (.int p2), .val (.int p3), .val (.int p4), .val (.int p5), .val (.int rA), .val (.int rB), .val (.int rC), .val (.int rU), .val (.int q), .val (.double (FP.i2d sa)), .second, .val (.double (FP.i2d sb)), .second, .val (.double (FP.i2d sc)), .second, .val (.double (FP.i2d ia)), .second, .val (.double (FP.i2d ib)), .second, .val (.double (FP.i2d ic)), .second, .val (.double (FP.i2d ie)), .second, .val (.ref po), .val (.double gg), .second, .val (.double ppa), .second, .val (.double ppb), .second, .val (.double ppc), .second, .unset, .unset, .unset, .unset, .unset, .unset, .unset, .unset, .unset, .unset, .unset, .unset, .unset, .unset] [(.int rA)])) := Steps.refl _
      have r223 : Steps p.tables e below (T218.setTop (mkF m 258 #[.val (.int p1), .val (.int p2), .val (.int p3), .val (.int p4), .val (.int p5), .val (.int rA), .val (.int rB), .val (.int rC), .val (.int rU), .val (.int q), .val (.double (FP.i2d sa)), .second, .val (.double (FP.i2d sb)), .second, .val (.double (FP.i2d sc)), .second, .val (.double (FP.i2d ia)), .second, .val (.double (FP.i2d ib)), .second, .val (.double (FP.i2d ic)), .second, .val (.double (FP.i2d ie)), .second, .val (.ref po), .val (.double gg), .second, .val (.double ppa), .second, .val (.double ppb), .second, .val (.double ppc), .second, .unset, .unset, .unset, .unset, .unset, .unset, .unset, .unset, .unset, .unset, .unset, .unset, .unset, .unset] [(.int rA)])) (T218.setTop (mkF m 266 #[.val (.int p1), .val (.int p2), .val (.int p3), .val (.int p4), .val (.int p5), .val (.int rA), .val (.int rB), .val (.int rC), .val (.int rU), .val (.int q), .val (.double (FP.i2d sa)), .second, .val (.double (FP.i2d sb)), .second, .val (.double (FP.i2d sc)), .second, .val (.double (FP.i2d ia)), .second, .val (.double (FP.i2d ib)), .second, .val (.double (FP.i2d ic)), .second, .val (.double (FP.i2d ie)), .second, .val (.ref po), .val (.double gg), .second, .val (.double ppa), .second, .val (.double ppb), .second, .val (.double ppc), .second, .unset, .unset, .unset, .unset, .unset, .unset, .unset, .unset, .unset, .unset, .unset, .unset, .unset, .unset] [(.int (1 : Int32))])) := by
        refine q0.trans ?_
        show Steps p.tables e below (T218.setTop (mkF m 258 #[.val (.int p1), .val (.int p2), .val (.int p3), .val (.int p4), .val (.int p5), .val (.int rA), .val (.int rB), .val (.int rC), .val (.int rU), .val (.int q), .val (.double (FP.i2d sa)), .second, .val (.double (FP.i2d sb)), .second, .val (.double (FP.i2d sc)), .second, .val (.double (FP.i2d ia)), .second, .val (.double (FP.i2d ib)), .second, .val (.double (FP.i2d ic)), .second, .val (.double (FP.i2d ie)), .second, .val (.ref po), .val (.double gg), .second, .val (.double ppa), .second, .val (.double ppb), .second, .val (.double ppc), .second, .unset, .unset, .unset, .unset, .unset, .unset, .unset, .unset, .unset, .unset, .unset, .unset, .unset, .unset] [(.int rA)])) _
        refine XS.ifNo X218.here hx rfl (hb hby at_258) rfl ((if0 _ _).trans (feq hf221).1) ?_
        show Steps p.tables e below (T218.setTop (mkF m 261 #[.val (.int p1), .val (.int p2), .val (.int p3), .val (.int p4), .val (.int p5), .val (.int rA), .val (.int rB), .val (.int rC), .val (.int rU), .val (.int q), .val (.double (FP.i2d sa)), .second, .val (.double (FP.i2d sb)), .second, .val (.double (FP.i2d sc)), .second, .val (.double (FP.i2d ia)), .second, .val (.double (FP.i2d ib)), .second, .val (.double (FP.i2d ic)), .second, .val (.double (FP.i2d ie)), .second, .val (.ref po), .val (.double gg), .second, .val (.double ppa), .second, .val (.double ppb), .second, .val (.double ppc), .second, .unset, .unset, .unset, .unset, .unset, .unset, .unset, .unset, .unset, .unset, .unset, .unset, .unset, .unset] [])) _
        refine XS.iconst X218.here hx rfl (hb hby at_261) ?_
        show Steps p.tables e below (T218.setTop (mkF m 262 #[.val (.int p1), .val (.int p2), .val (.int p3), .val (.int p4), .val (.int p5), .val (.int rA), .val (.int rB), .val (.int rC), .val (.int rU), .val (.int q), .val (.double (FP.i2d sa)), .second, .val (.double (FP.i2d sb)), .second, .val (.double (FP.i2d sc)), .second, .val (.double (FP.i2d ia)), .second, .val (.double (FP.i2d ib)), .second, .val (.double (FP.i2d ic)), .second, .val (.double (FP.i2d ie)), .second, .val (.ref po), .val (.double gg), .second, .val (.double ppa), .second, .val (.double ppb), .second, .val (.double ppc), .second, .unset, .unset, .unset, .unset, .unset, .unset, .unset, .unset, .unset, .unset, .unset, .unset, .unset, .unset] [(.int (1 : Int32))])) _
        refine XS.goto X218.here hx rfl (pc0 := 262) (pc' := 266) rfl (hb hby at_262) (by decide) (by decide) ?_
        exact Steps.refl _
      exact r223
  obtain ⟨jA, hjA⟩ : ∃ z, z = (if rA = (0 : Int32) then (0 : Int32) else (1 : Int32)) := ⟨_, rfl⟩
  have r225 : Steps p.tables e below S0 (T218.setTop (mkF m 266 #[.val (.int p1), .val (.int p2), .val (.int p3), .val (.int p4), .val (.int p5), .val (.int rA), .val (.int rB), .val (.int rC), .val (.int rU), .val (.int q), .val (.double (FP.i2d sa)), .second, .val (.double (FP.i2d sb)), .second, .val (.double (FP.i2d sc)), .second, .val (.double (FP.i2d ia)), .second, .val (.double (FP.i2d ib)), .second, .val (.double (FP.i2d ic)), .second, .val (.double (FP.i2d ie)), .second, .val (.ref po), .val (.double gg), .second, .val (.double ppa), .second, .val (.double ppb), .second, .val (.double ppc), .second, .unset, .unset, .unset, .unset, .unset, .unset, .unset, .unset, .unset, .unset, .unset, .unset, .unset, .unset] [(.int jA)])) := by rw [hjA]; exact r224
  have r226 : Steps p.tables e below S0 (T218.setTop (mkF m 268 #[.val (.int p1), .val (.int p2), .val (.int p3), .val (.int p4), .val (.int p5), .val (.int rA), .val (.int rB), .val (.int rC), .val (.int rU), .val (.int q), .val (.double (FP.i2d sa)), .second, .val (.double (FP.i2d sb)), .second, .val (.double (FP.i2d sc)), .second, .val (.double (FP.i2d ia)), .second, .val (.double (FP.i2d ib)), .second, .val (.double (FP.i2d ic)), .second, .val (.double (FP.i2d ie)), .second, .val (.ref po), .val (.double gg), .second, .val (.double ppa), .second, .val (.double ppb), .second, .val (.double ppc), .second, .unset, .unset, .unset, .unset, .unset, .unset, .unset, .unset, .unset, .unset, .unset, .unset, .unset, .unset] [(.int rB), (.int jA)])) := by
    refine r225.trans ?_
    show Steps p.tables e below (T218.setTop (mkF m 266 #[.val (.int p1), .val (.int p2), .val (.int p3), .val (.int p4), .val (.int p5), .val (.int rA), .val (.int rB), .val (.int rC), .val (.int rU), .val (.int q), .val (.double (FP.i2d sa)), .second, .val (.double (FP.i2d sb)), .second, .val (.double (FP.i2d sc)), .second, .val (.double (FP.i2d ia)), .second, .val (.double (FP.i2d ib)), .second, .val (.double (FP.i2d ic)), .second, .val (.double (FP.i2d ie)), .second, .val (.ref po), .val (.double gg), .second, .val (.double ppa), .second, .val (.double ppb), .second, .val (.double ppc), .second, .unset, .unset, .unset, .unset, .unset, .unset, .unset, .unset, .unset, .unset, .unset, .unset, .unset, .unset] [(.int jA)])) _
    refine XS.iload X218.here hx rfl (hb hby at_266) rfl ?_
    exact Steps.refl _
  have r230 : Steps p.tables e below S0 (T218.setTop (mkF m 276 #[.val (.int p1), .val (.int p2), .val (.int p3), .val (.int p4), .val (.int p5), .val (.int rA), .val (.int rB), .val (.int rC), .val (.int rU), .val (.int q), .val (.double (FP.i2d sa)), .second, .val (.double (FP.i2d sb)), .second, .val (.double (FP.i2d sc)), .second, .val (.double (FP.i2d ia)), .second, .val (.double (FP.i2d ib)), .second, .val (.double (FP.i2d ic)), .second, .val (.double (FP.i2d ie)), .second, .val (.ref po), .val (.double gg), .second, .val (.double ppa), .second, .val (.double ppb), .second, .val (.double ppc), .second, .unset, .unset, .unset, .unset, .unset, .unset, .unset, .unset, .unset, .unset, .unset, .unset, .unset, .unset] [(.int (if rB = (0 : Int32) then (0 : Int32) else (1 : Int32))), (.int jA)])) := by
    refine r226.trans ?_
    by_cases hf227 : rB = (0 : Int32)
    · skip
      rw [show (if rB = (0 : Int32) then (0 : Int32) else (1 : Int32)) = (0 : Int32) from if_pos hf227]
      have q0 : Steps p.tables e below (T218.setTop (mkF m 268 #[.val (.int p1), .val (.int p2), .val (.int p3), .val (.int p4), .val (.int p5), .val (.int rA), .val (.int rB), .val (.int rC), .val (.int rU), .val (.int q), .val (.double (FP.i2d sa)), .second, .val (.double (FP.i2d sb)), .second, .val (.double (FP.i2d sc)), .second, .val (.double (FP.i2d ia)), .second, .val (.double (FP.i2d ib)), .second, .val (.double (FP.i2d ic)), .second, .val (.double (FP.i2d ie)), .second, .val (.ref po), .val (.double gg), .second, .val (.double ppa), .second, .val (.double ppb), .second, .val (.double ppc), .second, .unset, .unset, .unset, .unset, .unset, .unset, .unset, .unset, .unset, .unset, .unset, .unset, .unset, .unset] [(.int rB), (.int jA)])) (T218.setTop (mkF m 268 #[.val (.int p1), .val (.int p2), .val (.int p3), .val (.int p4), .val (.int p5), .val (.int rA), .val (.int rB), .val (.int rC), .val (.int rU), .val (.int q), .val (.double (FP.i2d sa)), .second, .val (.double (FP.i2d sb)), .second, .val (.double (FP.i2d sc)), .second, .val (.double (FP.i2d ia)), .second, .val (.double (FP.i2d ib)), .second, .val (.double (FP.i2d ic)), .second, .val (.double (FP.i2d ie)), .second, .val (.ref po), .val (.double gg), .second, .val (.double ppa), .second, .val (.double ppb), .second, .val (.double ppc), .second, .unset, .unset, .unset, .unset, .unset, .unset, .unset, .unset, .unset, .unset, .unset, .unset, .unset, .unset] [(.int rB), (.int jA)])) := Steps.refl _
      have r228 : Steps p.tables e below (T218.setTop (mkF m 268 #[.val (.int p1), .val (.int p2), .val (.int p3), .val (.int p4), .val (.int p5), .val (.int rA), .val (.int rB), .val (.int rC), .val (.int rU), .val (.int q), .val (.double (FP.i2d sa)), .second, .val (.double (FP.i2d sb)), .second, .val (.double (FP.i2d sc)), .second, .val (.double (FP.i2d ia)), .second, .val (.double (FP.i2d ib)), .second, .val (.double (FP.i2d ic)), .second, .val (.double (FP.i2d ie)), .second, .val (.ref po), .val (.double gg), .second, .val (.double ppa), .second, .val (.double ppb), .second, .val (.double ppc), .second, .unset, .unset, .unset, .unset, .unset, .unset, .unset, .unset, .unset, .unset, .unset, .unset, .unset, .unset] [(.int rB), (.int jA)])) (T218.setTop (mkF m 276 #[.val (.int p1), .val (.int p2), .val (.int p3), .val (.int p4), .val (.int p5), .val (.int rA), .val (.int rB), .val (.int rC), .val (.int rU), .val (.int q), .val (.double (FP.i2d sa)), .second, .val (.double (FP.i2d sb)), .second, .val (.double (FP.i2d sc)), .second, .val (.double (FP.i2d ia)), .second, .val (.double (FP.i2d ib)), .second, .val (.double (FP.i2d ic)), .second, .val (.double (FP.i2d ie)), .second, .val (.ref po), .val (.double gg), .second, .val (.double ppa), .second, .val (.double ppb), .second, .val (.double ppc), .second, .unset, .unset, .unset, .unset, .unset, .unset, .unset, .unset, .unset, .unset, .unset, .unset, .unset, .unset] [(.int (0 : Int32)), (.int jA)])) := by
        refine q0.trans ?_
        show Steps p.tables e below (T218.setTop (mkF m 268 #[.val (.int p1), .val (.int p2), .val (.int p3), .val (.int p4), .val (.int p5), .val (.int rA), .val (.int rB), .val (.int rC), .val (.int rU), .val (.int q), .val (.double (FP.i2d sa)), .second, .val (.double (FP.i2d sb)), .second, .val (.double (FP.i2d sc)), .second, .val (.double (FP.i2d ia)), .second, .val (.double (FP.i2d ib)), .second, .val (.double (FP.i2d ic)), .second, .val (.double (FP.i2d ie)), .second, .val (.ref po), .val (.double gg), .second, .val (.double ppa), .second, .val (.double ppb), .second, .val (.double ppc), .second, .unset, .unset, .unset, .unset, .unset, .unset, .unset, .unset, .unset, .unset, .unset, .unset, .unset, .unset] [(.int rB), (.int jA)])) _
        refine XS.ifYes X218.here hx rfl (pc0 := 268) (pc' := 275) rfl (hb hby at_268) rfl ((if0 _ _).trans (teq hf227).1) (by decide) (by decide) ?_
        show Steps p.tables e below (T218.setTop (mkF m 275 #[.val (.int p1), .val (.int p2), .val (.int p3), .val (.int p4), .val (.int p5), .val (.int rA), .val (.int rB), .val (.int rC), .val (.int rU), .val (.int q), .val (.double (FP.i2d sa)), .second, .val (.double (FP.i2d sb)), .second, .val (.double (FP.i2d sc)), .second, .val (.double (FP.i2d ia)), .second, .val (.double (FP.i2d ib)), .second, .val (.double (FP.i2d ic)), .second, .val (.double (FP.i2d ie)), .second, .val (.ref po), .val (.double gg), .second, .val (.double ppa), .second, .val (.double ppb), .second, .val (.double ppc), .second, .unset, .unset, .unset, .unset, .unset, .unset, .unset, .unset, .unset, .unset, .unset, .unset, .unset, .unset] [(.int jA)])) _
        refine XS.iconst X218.here hx rfl (hb hby at_275) ?_
        exact Steps.refl _
      exact r228
    · skip
      rw [show (if rB = (0 : Int32) then (0 : Int32) else (1 : Int32)) = (1 : Int32) from if_neg hf227]
      have q0 : Steps p.tables e below (T218.setTop (mkF m 268 #[.val (.int p1), .val (.int p2), .val (.int p3), .val (.int p4), .val (.int p5), .val (.int rA), .val (.int rB), .val (.int rC), .val (.int rU), .val (.int q), .val (.double (FP.i2d sa)), .second, .val (.double (FP.i2d sb)), .second, .val (.double (FP.i2d sc)), .second, .val (.double (FP.i2d ia)), .second, .val (.double (FP.i2d ib)), .second, .val (.double (FP.i2d ic)), .second, .val (.double (FP.i2d ie)), .second, .val (.ref po), .val (.double gg), .second, .val (.double ppa), .second, .val (.double ppb), .second, .val (.double ppc), .second, .unset, .unset, .unset, .unset, .unset, .unset, .unset, .unset, .unset, .unset, .unset, .unset, .unset, .unset] [(.int rB), (.int jA)])) (T218.setTop (mkF m 268 #[.val (.int p1), .val (.int p2), .val (.int p3), .val (.int p4), .val (.int p5), .val (.int rA), .val (.int rB), .val (.int rC), .val (.int rU), .val (.int q), .val (.double (FP.i2d sa)), .second, .val (.double (FP.i2d sb)), .second, .val (.double (FP.i2d sc)), .second, .val (.double (FP.i2d ia)), .second, .val (.double (FP.i2d ib)), .second, .val (.double (FP.i2d ic)), .second, .val (.double (FP.i2d ie)), .second, .val (.ref po), .val (.double gg), .second, .val (.double ppa), .second, .val (.double ppb), .second, .val (.double ppc), .second, .unset, .unset, .unset, .unset, .unset, .unset, .unset, .unset, .unset, .unset, .unset, .unset, .unset, .unset] [(.int rB), (.int jA)])) := Steps.refl _
      have r229 : Steps p.tables e below (T218.setTop (mkF m 268 #[.val (.int p1), .val (.int p2), .val (.int p3), .val (.int p4), .val (.int p5), .val (.int rA), .val (.int rB), .val (.int rC), .val (.int rU), .val (.int q), .val (.double (FP.i2d sa)), .second, .val (.double (FP.i2d sb)), .second, .val (.double (FP.i2d sc)), .second, .val (.double (FP.i2d ia)), .second, .val (.double (FP.i2d ib)), .second, .val (.double (FP.i2d ic)), .second, .val (.double (FP.i2d ie)), .second, .val (.ref po), .val (.double gg), .second, .val (.double ppa), .second, .val (.double ppb), .second, .val (.double ppc), .second, .unset, .unset, .unset, .unset, .unset, .unset, .unset, .unset, .unset, .unset, .unset, .unset, .unset, .unset] [(.int rB), (.int jA)])) (T218.setTop (mkF m 276 #[.val (.int p1), .val (.int p2), .val (.int p3), .val (.int p4), .val (.int p5), .val (.int rA), .val (.int rB), .val (.int rC), .val (.int rU), .val (.int q), .val (.double (FP.i2d sa)), .second, .val (.double (FP.i2d sb)), .second, .val (.double (FP.i2d sc)), .second, .val (.double (FP.i2d ia)), .second, .val (.double (FP.i2d ib)), .second, .val (.double (FP.i2d ic)), .second, .val (.double (FP.i2d ie)), .second, .val (.ref po), .val (.double gg), .second, .val (.double ppa), .second, .val (.double ppb), .second, .val (.double ppc), .second, .unset, .unset, .unset, .unset, .unset, .unset, .unset, .unset, .unset, .unset, .unset, .unset, .unset, .unset] [(.int (1 : Int32)), (.int jA)])) := by
        refine q0.trans ?_
        show Steps p.tables e below (T218.setTop (mkF m 268 #[.val (.int p1), .val (.int p2), .val (.int p3), .val (.int p4), .val (.int p5), .val (.int rA), .val (.int rB), .val (.int rC), .val (.int rU), .val (.int q), .val (.double (FP.i2d sa)), .second, .val (.double (FP.i2d sb)), .second, .val (.double (FP.i2d sc)), .second, .val (.double (FP.i2d ia)), .second, .val (.double (FP.i2d ib)), .second, .val (.double (FP.i2d ic)), .second, .val (.double (FP.i2d ie)), .second, .val (.ref po), .val (.double gg), .second, .val (.double ppa), .second, .val (.double ppb), .second, .val (.double ppc), .second, .unset, .unset, .unset, .unset, .unset, .unset, .unset, .unset, .unset, .unset, .unset, .unset, .unset, .unset] [(.int rB), (.int jA)])) _
        refine XS.ifNo X218.here hx rfl (hb hby at_268) rfl ((if0 _ _).trans (feq hf227).1) ?_
        show Steps p.tables e below (T218.setTop (mkF m 271 #[.val (.int p1), .val (.int p2), .val (.int p3), .val (.int p4), .val (.int p5), .val (.int rA), .val (.int rB), .val (.int rC), .val (.int rU), .val (.int q), .val (.double (FP.i2d sa)), .second, .val (.double (FP.i2d sb)), .second, .val (.double (FP.i2d sc)), .second, .val (.double (FP.i2d ia)), .second, .val (.double (FP.i2d ib)), .second, .val (.double (FP.i2d ic)), .second, .val (.double (FP.i2d ie)), .second, .val (.ref po), .val (.double gg), .second, .val (.double ppa), .second, .val (.double ppb), .second, .val (.double ppc), .second, .unset, .unset, .unset, .unset, .unset, .unset, .unset, .unset, .unset, .unset, .unset, .unset, .unset, .unset] [(.int jA)])) _
        refine XS.iconst X218.here hx rfl (hb hby at_271) ?_
        show Steps p.tables e below (T218.setTop (mkF m 272 #[.val (.int p1), .val (.int p2), .val (.int p3), .val (.int p4), .val (.int p5), .val (.int rA), .val (.int rB), .val (.int rC), .val (.int rU), .val (.int q), .val (.double (FP.i2d sa)), .second, .val (.double (FP.i2d sb)), .second, .val (.double (FP.i2d sc)), .second, .val (.double (FP.i2d ia)), .second, .val (.double (FP.i2d ib)), .second, .val (.double (FP.i2d ic)), .second, .val (.double (FP.i2d ie)), .second, .val (.ref po), .val (.double gg), .second, .val (.double ppa), .second, .val (.double ppb), .second, .val (.double ppc), .second, .unset, .unset, .unset, .unset, .unset, .unset, .unset, .unset, .unset, .unset, .unset, .unset, .unset, .unset] [(.int (1 : Int32)), (.int jA)])) _
        refine XS.goto X218.here hx rfl (pc0 := 272) (pc' := 276) rfl (hb hby at_272) (by decide) (by decide) ?_
        exact Steps.refl _
      exact r229
  obtain ⟨jB, hjB⟩ : ∃ z, z = (if rB = (0 : Int32) then (0 : Int32) else (1 : Int32)) := ⟨_, rfl⟩
  have r231 : Steps p.tables e below S0 (T218.setTop (mkF m 276 #[.val (.int p1), .val (.int p2), .val (.int p3), .val (.int p4), .val (.int p5), .val (.int rA), .val (.int rB), .val (.int rC), .val (.int rU), .val (.int q), .val (.double (FP.i2d sa)), .second, .val (.double (FP.i2d sb)), .second, .val (.double (FP.i2d sc)), .second, .val (.double (FP.i2d ia)), .second, .val (.double (FP.i2d ib)), .second, .val (.double (FP.i2d ic)), .second, .val (.double (FP.i2d ie)), .second, .val (.ref po), .val (.double gg), .second, .val (.double ppa), .second, .val (.double ppb), .second, .val (.double ppc), .second, .unset, .unset, .unset, .unset, .unset, .unset, .unset, .unset, .unset, .unset, .unset, .unset, .unset, .unset] [(.int jB), (.int jA)])) := by rw [hjB]; exact r230
  have r232 : Steps p.tables e below S0 (T218.setTop (mkF m 281 #[.val (.int p1), .val (.int p2), .val (.int p3), .val (.int p4), .val (.int p5), .val (.int rA), .val (.int rB), .val (.int rC), .val (.int rU), .val (.int q), .val (.double (FP.i2d sa)), .second, .val (.double (FP.i2d sb)), .second, .val (.double (FP.i2d sc)), .second, .val (.double (FP.i2d ia)), .second, .val (.double (FP.i2d ib)), .second, .val (.double (FP.i2d ic)), .second, .val (.double (FP.i2d ie)), .second, .val (.ref po), .val (.double gg), .second, .val (.double ppa), .second, .val (.double ppb), .second, .val (.double ppc), .second, .val (.int (jA + jB)), .unset, .unset, .unset, .unset, .unset, .unset, .unset, .unset, .unset, .unset, .unset, .unset, .unset] [(.int rA)])) := by
    refine r231.trans ?_
    show Steps p.tables e below (T218.setTop (mkF m 276 #[.val (.int p1), .val (.int p2), .val (.int p3), .val (.int p4), .val (.int p5), .val (.int rA), .val (.int rB), .val (.int rC), .val (.int rU), .val (.int q), .val (.double (FP.i2d sa)), .second, .val (.double (FP.i2d sb)), .second, .val (.double (FP.i2d sc)), .second, .val (.double (FP.i2d ia)), .second, .val (.double (FP.i2d ib)), .second, .val (.double (FP.i2d ic)), .second, .val (.double (FP.i2d ie)), .second, .val (.ref po), .val (.double gg), .second, .val (.double ppa), .second, .val (.double ppb), .second, .val (.double ppc), .second, .unset, .unset, .unset, .unset, .unset, .unset, .unset, .unset, .unset, .unset, .unset, .unset, .unset, .unset] [(.int jB), (.int jA)])) _
    refine XS.iadd X218.here hx rfl (hb hby at_276) rfl ?_
    show Steps p.tables e below (T218.setTop (mkF m 277 #[.val (.int p1), .val (.int p2), .val (.int p3), .val (.int p4), .val (.int p5), .val (.int rA), .val (.int rB), .val (.int rC), .val (.int rU), .val (.int q), .val (.double (FP.i2d sa)), .second, .val (.double (FP.i2d sb)), .second, .val (.double (FP.i2d sc)), .second, .val (.double (FP.i2d ia)), .second, .val (.double (FP.i2d ib)), .second, .val (.double (FP.i2d ic)), .second, .val (.double (FP.i2d ie)), .second, .val (.ref po), .val (.double gg), .second, .val (.double ppa), .second, .val (.double ppb), .second, .val (.double ppc), .second, .unset, .unset, .unset, .unset, .unset, .unset, .unset, .unset, .unset, .unset, .unset, .unset, .unset, .unset] [(.int (jA + jB))])) _
    refine XS.istore X218.here hx rfl (hb hby at_277) rfl (l' := #[.val (.int p1), .val (.int p2), .val (.int p3), .val (.int p4), .val (.int p5), .val (.int rA), .val (.int rB), .val (.int rC), .val (.int rU), .val (.int q), .val (.double (FP.i2d sa)), .second, .val (.double (FP.i2d sb)), .second, .val (.double (FP.i2d sc)), .second, .val (.double (FP.i2d ia)), .second, .val (.double (FP.i2d ib)), .second, .val (.double (FP.i2d ic)), .second, .val (.double (FP.i2d ie)), .second, .val (.ref po), .val (.double gg), .second, .val (.double ppa), .second, .val (.double ppb), .second, .val (.double ppc), .second, .val (.int (jA + jB)), .unset, .unset, .unset, .unset, .unset, .unset, .unset, .unset, .unset, .unset, .unset, .unset, .unset]) rfl ?_
    show Steps p.tables e below (T218.setTop (mkF m 279 #[.val (.int p1), .val (.int p2), .val (.int p3), .val (.int p4), .val (.int p5), .val (.int rA), .val (.int rB), .val (.int rC), .val (.int rU), .val (.int q), .val (.double (FP.i2d sa)), .second, .val (.double (FP.i2d sb)), .second, .val (.double (FP.i2d sc)), .second, .val (.double (FP.i2d ia)), .second, .val (.double (FP.i2d ib)), .second, .val (.double (FP.i2d ic)), .second, .val (.double (FP.i2d ie)), .second, .val (.ref po), .val (.double gg), .second, .val (.double ppa), .second, .val (.double ppb), .second, .val (.double ppc), .second, .val (.int (jA + jB)), .unset, .unset, .unset, .unset, .unset, .unset, .unset, .unset, .unset, .unset, .unset, .unset, .unset] [])) _
    refine XS.iload X218.here hx rfl (hb hby at_279) rfl ?_
    exact Steps.refl _
  have r236 : Steps p.tables e below S0 (T218.setTop (mkF m 290 #[.val (.int p1), .val (.int p2), .val (.int p3), .val (.int p4), .val (.int p5), .val (.int rA), .val (.int rB), .val (.int rC), .val (.int rU), .val (.int q), .val (.double (FP.i2d sa)), .second, .val (.double (FP.i2d sb)), .second, .val (.double (FP.i2d sc)), .second, .val (.double (FP.i2d ia)), .second, .val (.double (FP.i2d ib)), .second, .val (.double (FP.i2d ic)), .second, .val (.double (FP.i2d ie)), .second, .val (.ref po), .val (.double gg), .second, .val (.double ppa), .second, .val (.double ppb), .second, .val (.double ppc), .second, .val (.int (jA + jB)), .unset, .unset, .unset, .unset, .unset, .unset, .unset, .unset, .unset, .unset, .unset, .unset, .unset] [(.double (if rA = (0 : Int32) then FP.dconst0 else ppa))])) := by
    refine r232.trans ?_
    by_cases hf233 : rA = (0 : Int32)
    · skip
      rw [show (if rA = (0 : Int32) then FP.dconst0 else ppa) = FP.dconst0 from if_pos hf233]
      have q0 : Steps p.tables e below (T218.setTop (mkF m 281 #[.val (.int p1), .val (.int p2), .val (.int p3), .val (.int p4), .val (.int p5), .val (.int rA), .val (.int rB), .val (.int rC), .val (.int rU), .val (.int q), .val (.double (FP.i2d sa)), .second, .val (.double (FP.i2d sb)), .second, .val (.double (FP.i2d sc)), .second, .val (.double (FP.i2d ia)), .second, .val (.double (FP.i2d ib)), .second, .val (.double (FP.i2d ic)), .second, .val (.double (FP.i2d ie)), .second, .val (.ref po), .val (.double gg), .second, .val (.double ppa), .second, .val (.double ppb), .second, .val (.double ppc), .second, .val (.int (jA + jB)), .unset, .unset, .unset, .unset, .unset, .unset, .unset, .unset, .unset, .unset, .unset, .unset, .unset] [(.int rA)])) (T218.setTop (mkF m 281 #[.val (.int p1), .val (.int p2), .val (.int p3), .val (.int p4), .val (.int p5), .val (.int rA), .val (.int rB), .val (.int rC), .val (.int rU), .val (.int q), .val (.double (FP.i2d sa)), .second, .val (.double (FP.i2d sb)), .second, .val (.double (FP.i2d sc)), .second, .val (.double (FP.i2d ia)), .second, .val (.double (FP.i2d ib)), .second, .val (.double (FP.i2d ic)), .second, .val (.double (FP.i2d ie)), .second, .val (.ref po), .val (.double gg), .second, .val (.double ppa), .second, .val (.double ppb), .second, .val (.double ppc), .second, .val (.int (jA + jB)), .unset, .unset, .unset, .unset, .unset, .unset, .unset, .unset, .unset, .unset, .unset, .unset, .unset] [(.int rA)])) := Steps.refl _
      have r234 : Steps p.tables e below (T218.setTop (mkF m 281 #[.val (.int p1), .val (.int p2), .val (.int p3), .val (.int p4), .val (.int p5), .val (.int rA), .val (.int rB), .val (.int rC), .val (.int rU), .val (.int q), .val (.double (FP.i2d sa)), .second, .val (.double (FP.i2d sb)), .second, .val (.double (FP.i2d sc)), .second, .val (.double (FP.i2d ia)), .second, .val (.double (FP.i2d ib)), .second, .val (.double (FP.i2d ic)), .second, .val (.double (FP.i2d ie)), .second, .val (.ref po), .val (.double gg), .second, .val (.double ppa), .second, .val (.double ppb), .second, .val (.double ppc), .second, .val (.int (jA + jB)), .unset, .unset, .unset, .unset, .unset, .unset, .unset, .unset, .unset, .unset, .unset, .unset, .unset] [(.int rA)])) (T218.setTop (mkF m 290 #[.val (.int p1), .val (.int p2), .val (.int p3), .val (.int p4), .val (.int p5), .val (.int rA), .val (.int rB), .val (.int rC), .val (.int rU), .val (.int q), .val (.double (FP.i2d sa)), .second, .val (.double (FP.i2d sb)), .second, .val (.double (FP.i2d sc)), .second, .val (.double (FP.i2d ia)), .second, .val (.double (FP.i2d ib)), .second, .val (.double (FP.i2d ic)), .second, .val (.double (FP.i2d ie)), .second, .val (.ref po), .val (.double gg), .second, .val (.double ppa), .second, .val (.double ppb), .second, .val (.double ppc), .second, .val (.int (jA + jB)), .unset, .unset, .unset, .unset, .unset, .unset, .unset, .unset, .unset, .unset, .unset, .unset, .unset] [(.double FP.dconst0)])) := by
        refine q0.trans ?_
        show Steps p.tables e below (T218.setTop (mkF m 281 #[.val (.int p1), .val (.int p2), .val (.int p3), .val (.int p4), .val (.int p5), .val (.int rA), .val (.int rB), .val (.int rC), .val (.int rU), .val (.int q), .val (.double (FP.i2d sa)), .second, .val (.double (FP.i2d sb)), .second, .val (.double (FP.i2d sc)), .second, .val (.double (FP.i2d ia)), .second, .val (.double (FP.i2d ib)), .second, .val (.double (FP.i2d ic)), .second, .val (.double (FP.i2d ie)), .second, .val (.ref po), .val (.double gg), .second, .val (.double ppa), .second, .val (.double ppb), .second, .val (.double ppc), .second, .val (.int (jA + jB)), .unset, .unset, .unset, .unset, .unset, .unset, .unset, .unset, .unset, .unset, .unset, .unset, .unset] [(.int rA)])) _
        refine XS.ifYes X218.here hx rfl (pc0 := 281) (pc' := 289) rfl (hb hby at_281) rfl ((if0 _ _).trans (teq hf233).1) (by decide) (by decide) ?_
        show Steps p.tables e below (T218.setTop (mkF m 289 #[.val (.int p1), .val (.int p2), .val (.int p3), .val (.int p4), .val (.int p5), .val (.int rA), .val (.int rB), .val (.int rC), .val (.int rU), .val (.int q), .val (.double (FP.i2d sa)), .second, .val (.double (FP.i2d sb)), .second, .val (.double (FP.i2d sc)), .second, .val (.double (FP.i2d ia)), .second, .val (.double (FP.i2d ib)), .second, .val (.double (FP.i2d ic)), .second, .val (.double (FP.i2d ie)), .second, .val (.ref po), .val (.double gg), .second, .val (.double ppa), .second, .val (.double ppb), .second, .val (.double ppc), .second, .val (.int (jA + jB)), .unset, .unset, .unset, .unset, .unset, .unset, .unset, .unset, .unset, .unset, .unset, .unset, .unset] [])) _
        refine XS.dconst0 X218.here hx rfl (hb hby at_289) rfl ?_
        exact Steps.refl _
      exact r234
    · skip
      rw [show (if rA = (0 : Int32) then FP.dconst0 else ppa) = ppa from if_neg hf233]
      have q0 : Steps p.tables e below (T218.setTop (mkF m 281 #[.val (.int p1), .val (.int p2), .val (.int p3), .val (.int p4), .val (.int p5), .val (.int rA), .val (.int rB), .val (.int rC), .val (.int rU), .val (.int q), .val (.double (FP.i2d sa)), .second, .val (.double (FP.i2d sb)), .second, .val (.double (FP.i2d sc)), .second, .val (.double (FP.i2d ia)), .second, .val (.double (FP.i2d ib)), .second, .val (.double (FP.i2d ic)), .second, .val (.double (FP.i2d ie)), .second, .val (.ref po), .val (.double gg), .second, .val (.double ppa), .second, .val (.double ppb), .second, .val (.double ppc), .second, .val (.int (jA + jB)), .unset, .unset, .unset, .unset, .unset, .unset, .unset, .unset, .unset, .unset, .unset, .unset, .unset] [(.int rA)])) (T218.setTop (mkF m 281 #[.val (.int p1), .val (.int p2), .val (.int p3), .val (.int p4), .val (.int p5), .val (.int rA), .val (.int rB), .val (.int rC), .val (.int rU), .val (.int q), .val (.double (FP.i2d sa)), .second, .val (.double (FP.i2d sb)), .second, .val (.double (FP.i2d sc)), .second, .val (.double (FP.i2d ia)), .second, .val (.double (FP.i2d ib)), .second, .val (.double (FP.i2d ic)), .second, .val (.double (FP.i2d ie)), .second, .val (.ref po), .val (.double gg), .second, .val (.double ppa), .second, .val (.double ppb), .second, .val (.double ppc), .second, .val (.int (jA + jB)), .unset, .unset, .unset, .unset, .unset, .unset, .unset, .unset, .unset, .unset, .unset, .unset, .unset] [(.int rA)])) := Steps.refl _
      have r235 : Steps p.tables e below (T218.setTop (mkF m 281 #[.val (.int p1), .val (.int p2), .val (.int p3), .val (.int p4), .val (.int p5), .val (.int rA), .val (.int rB), .val (.int rC), .val (.int rU), .val (.int q), .val (.double (FP.i2d sa)), .second, .val (.double (FP.i2d sb)), .second, .val (.double (FP.i2d sc)), .second, .val (.double (FP.i2d ia)), .second, .val (.double (FP.i2d ib)), .second, .val (.double (FP.i2d ic)), .second, .val (.double (FP.i2d ie)), .second, .val (.ref po), .val (.double gg), .second, .val (.double ppa), .second, .val (.double ppb), .second, .val (.double ppc), .second, .val (.int (jA + jB)), .unset, .unset, .unset, .unset, .unset, .unset, .unset, .unset, .unset, .unset, .unset, .unset, .unset] [(.int rA)])) (T218.setTop (mkF m 290 #[.val (.int p1), .val (.int p2), .val (.int p3), .val (.int p4), .val (.int p5), .val (.int rA), .val (.int rB), .val (.int rC), .val (.int rU), .val (.int q), .val (.double (FP.i2d sa)), .second, .val (.double (FP.i2d sb)), .second, .val (.double (FP.i2d sc)), .second, .val (.double (FP.i2d ia)), .second, .val (.double (FP.i2d ib)), .second, .val (.double (FP.i2d ic)), .second, .val (.double (FP.i2d ie)), .second, .val (.ref po), .val (.double gg), .second, .val (.double ppa), .second, .val (.double ppb), .second, .val (.double ppc), .second, .val (.int (jA + jB)), .unset, .unset, .unset, .unset, .unset, .unset, .unset, .unset, .unset, .unset, .unset, .unset, .unset] [(.double ppa)])) := by
        refine q0.trans ?_
        show Steps p.tables e below (T218.setTop (mkF m 281 #[.val (.int p1), .val (.int p2), .val (.int p3), .val (.int p4), .val (.int p5), .val (.int rA), .val (.int rB), .val (.int rC), .val (.int rU), .val (.int q), .val (.double (FP.i2d sa)), .second, .val (.double (FP.i2d sb)), .second, .val (.double (FP.i2d sc)), .second, .val (.double (FP.i2d ia)), .second, .val (.double (FP.i2d ib)), .second, .val (.double (FP.i2d ic)), .second, .val (.double (FP.i2d ie)), .second, .val (.ref po), .val (.double gg), .second, .val (.double ppa), .second, .val (.double ppb), .second, .val (.double ppc), .second, .val (.int (jA + jB)), .unset, .unset, .unset, .unset, .unset, .unset, .unset, .unset, .unset, .unset, .unset, .unset, .unset] [(.int rA)])) _
        refine XS.ifNo X218.here hx rfl (hb hby at_281) rfl ((if0 _ _).trans (feq hf233).1) ?_
        show Steps p.tables e below (T218.setTop (mkF m 284 #[.val (.int p1), .val (.int p2), .val (.int p3), .val (.int p4), .val (.int p5), .val (.int rA), .val (.int rB), .val (.int rC), .val (.int rU), .val (.int q), .val (.double (FP.i2d sa)), .second, .val (.double (FP.i2d sb)), .second, .val (.double (FP.i2d sc)), .second, .val (.double (FP.i2d ia)), .second, .val (.double (FP.i2d ib)), .second, .val (.double (FP.i2d ic)), .second, .val (.double (FP.i2d ie)), .second, .val (.ref po), .val (.double gg), .second, .val (.double ppa), .second, .val (.double ppb), .second, .val (.double ppc), .second, .val (.int (jA + jB)), .unset, .unset, .unset, .unset, .unset, .unset, .unset, .unset, .unset, .unset, .unset, .unset, .unset] [])) _
        refine XS.dload X218.here hx rfl (hb hby at_284) rfl ?_
        show Steps p.tables e below (T218.setTop (mkF m 286 #[.val (.int p1), .val (.int p2), .val (.int p3), .val (.int p4), .val (.int p5), .val (.int rA), .val (.int rB), .val (.int rC), .val (.int rU), .val (.int q), .val (.double (FP.i2d sa)), .second, .val (.double (FP.i2d sb)), .second, .val (.double (FP.i2d sc)), .second, .val (.double (FP.i2d ia)), .second, .val (.double (FP.i2d ib)), .second, .val (.double (FP.i2d ic)), .second, .val (.double (FP.i2d ie)), .second, .val (.ref po), .val (.double gg), .second, .val (.double ppa), .second, .val (.double ppb), .second, .val (.double ppc), .second, .val (.int (jA + jB)), .unset, .unset, .unset, .unset, .unset, .unset, .unset, .unset, .unset, .unset, .unset, .unset, .unset] [(.double ppa)])) _
        refine XS.goto X218.here hx rfl (pc0 := 286) (pc' := 290) rfl (hb hby at_286) (by decide) (by decide) ?_
        exact Steps.refl _
      exact r235
  obtain ⟨xA, hxA⟩ : ∃ z, z = (if rA = (0 : Int32) then FP.dconst0 else ppa) := ⟨_, rfl⟩
  have r237 : Steps p.tables e below S0 (T218.setTop (mkF m 290 #[.val (.int p1), .val (.int p2), .val (.int p3), .val (.int p4), .val (.int p5), .val (.int rA), .val (.int rB), .val (.int rC), .val (.int rU), .val (.int q), .val (.double (FP.i2d sa)), .second, .val (.double (FP.i2d sb)), .second, .val (.double (FP.i2d sc)), .second, .val (.double (FP.i2d ia)), .second, .val (.double (FP.i2d ib)), .second, .val (.double (FP.i2d ic)), .second, .val (.double (FP.i2d ie)), .second, .val (.ref po), .val (.double gg), .second, .val (.double ppa), .second, .val (.double ppb), .second, .val (.double ppc), .second, .val (.int (jA + jB)), .unset, .unset, .unset, .unset, .unset, .unset, .unset, .unset, .unset, .unset, .unset, .unset, .unset] [(.double xA)])) := by rw [hxA]; exact r236
  have r238 : Steps p.tables e below S0 (T218.setTop (mkF m 292 #[.val (.int p1), .val (.int p2), .val (.int p3), .val (.int p4), .val (.int p5), .val (.int rA), .val (.int rB), .val (.int rC), .val (.int rU), .val (.int q), .val (.double (FP.i2d sa)), .second, .val (.double (FP.i2d sb)), .second, .val (.double (FP.i2d sc)), .second, .val (.double (FP.i2d ia)), .second, .val (.double (FP.i2d ib)), .second, .val (.double (FP.i2d ic)), .second, .val (.double (FP.i2d ie)), .second, .val (.ref po), .val (.double gg), .second, .val (.double ppa), .second, .val (.double ppb), .second, .val (.double ppc), .second, .val (.int (jA + jB)), .unset, .unset, .unset, .unset, .unset, .unset, .unset, .unset, .unset, .unset, .unset, .unset, .unset] [(.int rB), (.double xA)])) := by
    refine r237.trans ?_
    show Steps p.tables e below (T218.setTop (mkF m 290 #[.val (.int p1), .val (.int p2), .val (.int p3), .val (.int p4), .val (.int p5), .val (.int rA), .val (.int rB), .val (.int rC), .val (.int rU), .val (.int q), .val (.double (FP.i2d sa)), .second, .val (.double (FP.i2d sb)), .second, .val (.double (FP.i2d sc)), .second, .val (.double (FP.i2d ia)), .second, .val (.double (FP.i2d ib)), .second, .val (.double (FP.i2d ic)), .second, .val (.double (FP.i2d ie)), .second, .val (.ref po), .val (.double gg), .second, .val (.double ppa), .second, .val (.double ppb), .second, .val (.double ppc), .second, .val (.int (jA + jB)), .unset, .unset, .unset, .unset, .unset, .unset, .unset, .unset, .unset, .unset, .unset, .unset, .unset] [(.double xA)])) _
    refine XS.iload X218.here hx rfl (hb hby at_290) rfl ?_
    exact Steps.refl _
  have r242 : Steps p.tables e below S0 (T218.setTop (mkF m 301 #[.val (.int p1), .val (.int p2), .val (.int p3), .val (.int p4), .val (.int p5), .val (.int rA), .val (.int rB), .val (.int rC), .val (.int rU), .val (.int q), .val (.double (FP.i2d sa)), .second, .val (.double (FP.i2d sb)), .second, .val (.double (FP.i2d sc)), .second, .val (.double (FP.i2d ia)), .second, .val (.double (FP.i2d ib)), .second, .val (.double (FP.i2d ic)), .second, .val (.double (FP.i2d ie)), .second, .val (.ref po), .val (.double gg), .second, .val (.double ppa), .second, .val (.double ppb), .second, .val (.double ppc), .second, .val (.int (jA + jB)), .unset, .unset, .unset, .unset, .unset, .unset, .unset, .unset, .unset, .unset, .unset, .unset, .unset] [(.double (if rB = (0 : Int32) then FP.dconst0 else ppb)), (.double xA)])) := by
    refine r238.trans ?_
    by_cases hf239 : rB = (0 : Int32)
    · skip
      rw [show (if rB = (0 : Int32) then FP.dconst0 else ppb) = FP.dconst0 from if_pos hf239]
      have q0 : Steps p.tables e below (T218.setTop (mkF m 292 #[.val (.int p1), .val (.int p2), .val (.int p3), .val (.int p4), .val (.int p5), .val (.int rA), .val (.int rB), .val (.int rC), .val (.int rU), .val (.int q), .val (.double (FP.i2d sa)), .second, .val (.double (FP.i2d sb)), .second, .val (.double (FP.i2d sc)), .second, .val (.double (FP.i2d ia)), .second, .val (.double (FP.i2d ib)), .second, .val (.double (FP.i2d ic)), .second, .val (.double (FP.i2d ie)), .second, .val (.ref po), .val (.double gg), .second, .val (.double ppa), .second, .val (.double ppb), .second, .val (.double ppc), .second, .val (.int (jA + jB)), .unset, .unset, .unset, .unset, .unset, .unset, .unset, .unset, .unset, .unset, .unset, .unset, .unset] [(.int rB), (.double xA)])) (T218.setTop (mkF m 292 #[.val (.int p1), .val (.int p2), .val (.int p3), .val (.int p4), .val (.int p5), .val (.int rA), .val (.int rB), .val (.int rC), .val (.int rU), .val (.int q), .val (.double (FP.i2d sa)), .second, .val (.double (FP.i2d sb)), .second, .val (.double (FP.i2d sc)), .second, .val (.double (FP.i2d ia)), .second, .val (.double (FP.i2d ib)), .second, .val (.double (FP.i2d ic)), .second, .val (.double (FP.i2d ie)), .second, .val (.ref po), .val (.double gg), .second, .val (.double ppa), .second, .val (.double ppb), .second, .val (.double ppc), .second, .val (.int (jA + jB)), .unset, .unset, .unset, .unset, .unset, .unset, .unset, .unset, .unset, .unset, .unset, .unset, .unset] [(.int rB), (.double xA)])) := Steps.refl _
      have r240 : Steps p.tables e below (T218.setTop (mkF m 292 #[.val (.int p1), .val (.int p2), .val (.int p3), .val (.int p4), .val (.int p5), .val (.int rA), .val (.int rB), .val (.int rC), .val (.int rU), .val (.int q), .val (.double (FP.i2d sa)), .second, .val (.double (FP.i2d sb)), .second, .val (.double (FP.i2d sc)), .second, .val (.double (FP.i2d ia)), .second, .val (.double (FP.i2d ib)), .second, .val (.double (FP.i2d ic)), .second, .val (.double (FP.i2d ie)), .second, .val (.ref po), .val (.double gg), .second, .val (.double ppa), .second, .val (.double ppb), .second, .val (.double ppc), .second, .val (.int (jA + jB)), .unset, .unset, .unset, .unset, .unset, .unset, .unset, .unset, .unset, .unset, .unset, .unset, .unset] [(.int rB), (.double xA)])) (T218.setTop (mkF m 301 #[.val (.int p1), .val (.int p2), .val (.int p3), .val (.int p4), .val (.int p5), .val (.int rA), .val (.int rB), .val (.int rC), .val (.int rU), .val (.int q), .val (.double (FP.i2d sa)), .second, .val (.double (FP.i2d sb)), .second, .val (.double (FP.i2d sc)), .second, .val (.double (FP.i2d ia)), .second, .val (.double (FP.i2d ib)), .second, .val (.double (FP.i2d ic)), .second, .val (.double (FP.i2d ie)), .second, .val (.ref po), .val (.double gg), .second, .val (.double ppa), .second, .val (.double ppb), .second, .val (.double ppc), .second, .val (.int (jA + jB)), .unset, .unset, .unset, .unset, .unset, .unset, .unset, .unset, .unset, .unset, .unset, .unset, .unset] [(.double FP.dconst0), (.double xA)])) := by
        refine q0.trans ?_
        show Steps p.tables e below (T218.setTop (mkF m 292 #[.val (.int p1), .val (.int p2), .val (.int p3), .val (.int p4), .val (.int p5), .val (.int rA), .val (.int rB), .val (.int rC), .val (.int rU), .val (.int q), .val (.double (FP.i2d sa)), .second, .val (.double (FP.i2d sb)), .second, .val (.double (FP.i2d sc)), .second, .val (.double (FP.i2d ia)), .second, .val (.double (FP.i2d ib)), .second, .val (.double (FP.i2d ic)), .second, .val (.double (FP.i2d ie)), .second, .val (.ref po), .val (.double gg), .second, .val (.double ppa), .second, .val (.double ppb), .second, .val (.double ppc), .second, .val (.int (jA + jB)), .unset, .unset, .unset, .unset, .unset, .unset, .unset, .unset, .unset, .unset, .unset, .unset, .unset] [(.int rB), (.double xA)])) _
        refine XS.ifYes X218.here hx rfl (pc0 := 292) (pc' := 300) rfl (hb hby at_292) rfl ((if0 _ _).trans (teq hf239).1) (by decide) (by decide) ?_
        show Steps p.tables e below (T218.setTop (mkF m 300 #[.val (.int p1), .val (.int p2), .val (.int p3), .val (.int p4), .val (.int p5), .val (.int rA), .val (.int rB), .val (.int rC), .val (.int rU), .val (.int q), .val (.double (FP.i2d sa)), .second, .val (.double (FP.i2d sb)), .second, .val (.double (FP.i2d sc)), .second, .val (.double (FP.i2d ia)), .second, .val (.double (FP.i2d ib)), .second, .val (.double (FP.i2d ic)), .second, .val (.double (FP.i2d ie)), .second, .val (.ref po), .val (.double gg), .second, .val (.double ppa), .second, .val (.double ppb), .second, .val (.double ppc), .second, .val (.int (jA + jB)), .unset, .unset, .unset, .unset, .unset, .unset, .unset, .unset, .unset, .unset, .unset, .unset, .unset] [(.double xA)])) _
        refine XS.dconst0 X218.here hx rfl (hb hby at_300) rfl ?_
        exact Steps.refl _
      exact r240
    · skip
      rw [show (if rB = (0 : Int32) then FP.dconst0 else ppb) = ppb from if_neg hf239]
      have q0 : Steps p.tables e below (T218.setTop (mkF m 292 #[.val (.int p1), .val (.int p2), .val (.int p3), .val (.int p4), .val (.int p5), .val (.int rA), .val (.int rB), .val (.int rC), .val (.int rU), .val (.int q), .val (.double (FP.i2d sa)), .second, .val (.double (FP.i2d sb)), .second, .val (.double (FP.i2d sc)), .second, .val (.double (FP.i2d ia)), .second, .val (.double (FP.i2d ib)), .second, .val (.double (FP.i2d ic)), .second, .val (.double (FP.i2d ie)), .second, .val (.ref po), .val (.double gg), .second, .val (.double ppa), .second, .val (.double ppb), .second, .val (.double ppc), .second, .val (.int (jA + jB)), .unset, .unset, .unset, .unset, .unset, .unset, .unset, .unset, .unset, .unset, .unset, .unset, .unset] [(.int rB), (.double xA)])) (T218.setTop (mkF m 292 #[.val (.int p1), .val (.int p2), .val (.int p3), .val (.int p4), .val (.int p5), .val (.int rA), .val (.int rB), .val (.int rC), .val (.int rU), .val (.int q), .val (.double (FP.i2d sa)), .second, .val (.double (FP.i2d sb)), .second, .val (.double (FP.i2d sc)), .second, .val (.double (FP.i2d ia)), .second, .val (.double (FP.i2d ib)), .second, .val (.double (FP.i2d ic)), .second, .val (.double (FP.i2d ie)), .second, .val (.ref po), .val (.double gg), .second, .val (.double ppa), .second, .val (.double ppb), .second, .val (.double ppc), .second, .val (.int (jA + jB)), .unset, .unset, .unset, .unset, .unset, .unset, .unset, .unset, .unset, .unset, .unset, .unset, .unset] [(.int rB), (.double xA)])) := Steps.refl _
      have r241 : Steps p.tables e below (T218.setTop (mkF m 292 #[.val (.int p1), .val (.int p2), .val (.int p3), .val (.int p4), .val (.int p5), .val (.int rA), .val (.int rB), .val (.int rC), .val (.int rU), .val (.int q), .val (.double (FP.i2d sa)), .second, .val (.double (FP.i2d sb)), .second, .val (.double (FP.i2d sc)), .second, .val (.double (FP.i2d ia)), .second, .val (.double (FP.i2d ib)), .second, .val (.double (FP.i2d ic)), .second, .val (.double (FP.i2d ie)), .second, .val (.ref po), .val (.double gg), .second, .val (.double ppa), .second, .val (.double ppb), .second, .val (.double ppc), .second, .val (.int (jA + jB)), .unset, .unset, .unset, .unset, .unset, .unset, .unset, .unset, .unset, .unset, .unset, .unset, .unset] [(.int rB), (.double xA)])) (T218.setTop (mkF m 301 #[.val (.int p1), .val (.int p2), .val (.int p3), .val (.int p4), .val (.int p5), .val (.int rA), .val (.int rB), .val (.int rC), .val (.int rU), .val (.int q), .val (.double (FP.i2d sa)), .second, .val (.double (FP.i2d sb)), .second, .val (.double (FP.i2d sc)), .second, .val (.double (FP.i2d ia)), .second, .val (.double (FP.i2d ib)), .second, .val (.double (FP.i2d ic)), .second, .val (.double (FP.i2d ie)), .second, .val (.ref po), .val (.double gg), .second, .val (.double ppa), .second, .val (.double ppb), .second, .val (.double ppc), .second, .val (.int (jA + jB)), .unset, .unset, .unset, .unset, .unset, .unset, .unset, .unset, .unset, .unset, .unset, .unset, .unset] [(.double ppb), (.double xA)])) := by
        refine q0.trans ?_
        show Steps p.tables e below (T218.setTop (mkF m 292 #[.val (.int p1), .val (.int p2), .val (.int p3), .val (.int p4), .val (.int p5), .val (.int rA), .val (.int rB), .val (.int rC), .val (.int rU), .val (.int q), .val (.double (FP.i2d sa)), .second, .val (.double (FP.i2d sb)), .second, .val (.double (FP.i2d sc)), .second, .val (.double (FP.i2d ia)), .second, .val (.double (FP.i2d ib)), .second, .val (.double (FP.i2d ic)), .second, .val (.double (FP.i2d ie)), .second, .val (.ref po), .val (.double gg), .second, .val (.double ppa), .second, .val (.double ppb), .second, .val (.double ppc), .second, .val (.int (jA + jB)), .unset, .unset, .unset, .unset, .unset, .unset, .unset, .unset, .unset, .unset, .unset, .unset, .unset] [(.int rB), (.double xA)])) _
        refine XS.ifNo X218.here hx rfl (hb hby at_292) rfl ((if0 _ _).trans (feq hf239).1) ?_
        show Steps p.tables e below (T218.setTop (mkF m 295 #[.val (.int p1), .val (.int p2), .val (.int p3), .val (.int p4), .val (.int p5), .val (.int rA), .val (.int rB), .val (.int rC), .val (.int rU), .val (.int q), .val (.double (FP.i2d sa)), .second, .val (.double (FP.i2d sb)), .second, .val (.double (FP.i2d sc)), .second, .val (.double (FP.i2d ia)), .second, .val (.double (FP.i2d ib)), .second, .val (.double (FP.i2d ic)), .second, .val (.double (FP.i2d ie)), .second, .val (.ref po), .val (.double gg), .second, .val (.double ppa), .second, .val (.double ppb), .second, .val (.double ppc), .second, .val (.int (jA + jB)), .unset, .unset, .unset, .unset, .unset, .unset, .unset, .unset, .unset, .unset, .unset, .unset, .unset] [(.double xA)])) _
        refine XS.dload X218.here hx rfl (hb hby at_295) rfl ?_
        show Steps p.tables e below (T218.setTop (mkF m 297 #[.val (.int p1), .val (.int p2), .val (.int p3), .val (.int p4), .val (.int p5), .val (.int rA), .val (.int rB), .val (.int rC), .val (.int rU), .val (.int q), .val (.double (FP.i2d sa)), .second, .val (.double (FP.i2d sb)), .second, .val (.double (FP.i2d sc)), .second, .val (.double (FP.i2d ia)), .second, .val (.double (FP.i2d ib)), .second, .val (.double (FP.i2d ic)), .second, .val (.double (FP.i2d ie)), .second, .val (.ref po), .val (.double gg), .second, .val (.double ppa), .second, .val (.double ppb), .second, .val (.double ppc), .second, .val (.int (jA + jB)), .unset, .unset, .unset, .unset, .unset, .unset, .unset, .unset, .unset, .unset, .unset, .unset, .unset] [(.double ppb), (.double xA)])) _
        refine XS.goto X218.here hx rfl (pc0 := 297) (pc' := 301) rfl (hb hby at_297) (by decide) (by decide) ?_
        exact Steps.refl _
      exact r241
  obtain ⟨xB, hxB⟩ : ∃ z, z = (if rB = (0 : Int32) then FP.dconst0 else ppb) := ⟨_, rfl⟩
  have r243 : Steps p.tables e below S0 (T218.setTop (mkF m 301 #[.val (.int p1), .val (.int p2), .val (.int p3), .val (.int p4), .val (.int p5), .val (.int rA), .val (.int rB), .val (.int rC), .val (.int rU), .val (.int q), .val (.double (FP.i2d sa)), .second, .val (.double (FP.i2d sb)), .second, .val (.double (FP.i2d sc)), .second, .val (.double (FP.i2d ia)), .second, .val (.double (FP.i2d ib)), .second, .val (.double (FP.i2d ic)), .second, .val (.double (FP.i2d ie)), .second, .val (.ref po), .val (.double gg), .second, .val (.double ppa), .second, .val (.double ppb), .second, .val (.double ppc), .second, .val (.int (jA + jB)), .unset, .unset, .unset, .unset, .unset, .unset, .unset, .unset, .unset, .unset, .unset, .unset, .unset] [(.double xB), (.double xA)])) := by rw [hxB]; exact r242
  have yxA : Dy XA 3 xA := by
    rw [hXA, hxA]
    by_cases z : rA = (0 : Int32)
    · rw [if_pos z, if_pos z]; exact (dy_zero.scale 3).cast (by rfl) rfl
    · rw [if_neg z, if_neg z]; exact yppa
  have tjA : jA.toInt = NA := by
    rw [hNA, hjA]
    by_cases z : rA = (0 : Int32)
    · rw [if_pos z, if_pos z]; decide
    · rw [if_neg z, if_neg z]; decide
  have yxB : Dy XB 3 xB := by
    rw [hXB, hxB]
    by_cases z : rB = (0 : Int32)
    · rw [if_pos z, if_pos z]; exact (dy_zero.scale 3).cast (by rfl) rfl
    · rw [if_neg z, if_neg z]; exact yppb
  have tjB : jB.toInt = NB := by
    rw [hNB, hjB]
    by_cases z : rB = (0 : Int32)
    · rw [if_pos z, if_pos z]; decide
    · rw [if_neg z, if_neg z]; decide
  obtain ⟨s0, hs0⟩ : ∃ z, FP.dadd xA xB = z := ⟨_, rfl⟩
  have ys0 : Dy (XA + XB) 3 s0 := hs0 ▸ (yxA.add yxB (by omega) (by decide))
  have r244 : Steps p.tables e below S0 (T218.setTop (mkF m 306 #[.val (.int p1), .val (.int p2), .val (.int p3), .val (.int p4), .val (.int p5), .val (.int rA), .val (.int rB), .val (.int rC), .val (.int rU), .val (.int q), .val (.double (FP.i2d sa)), .second, .val (.double (FP.i2d sb)), .second, .val (.double (FP.i2d sc)), .second, .val (.double (FP.i2d ia)), .second, .val (.double (FP.i2d ib)), .second, .val (.double (FP.i2d ic)), .second, .val (.double (FP.i2d ie)), .second, .val (.ref po), .val (.double gg), .second, .val (.double ppa), .second, .val (.double ppb), .second, .val (.double ppc), .second, .val (.int (jA + jB)), .val (.double s0), .second, .unset, .unset, .unset, .unset, .unset, .unset, .unset, .unset, .unset, .unset, .unset] [(.int rC)])) := by
    refine r243.trans ?_
    show Steps p.tables e below (T218.setTop (mkF m 301 #[.val (.int p1), .val (.int p2), .val (.int p3), .val (.int p4), .val (.int p5), .val (.int rA), .val (.int rB), .val (.int rC), .val (.int rU), .val (.int q), .val (.double (FP.i2d sa)), .second, .val (.double (FP.i2d sb)), .second, .val (.double (FP.i2d sc)), .second, .val (.double (FP.i2d ia)), .second, .val (.double (FP.i2d ib)), .second, .val (.double (FP.i2d ic)), .second, .val (.double (FP.i2d ie)), .second, .val (.ref po), .val (.double gg), .second, .val (.double ppa), .second, .val (.double ppb), .second, .val (.double ppc), .second, .val (.int (jA + jB)), .unset, .unset, .unset, .unset, .unset, .unset, .unset, .unset, .unset, .unset, .unset, .unset, .unset] [(.double xB), (.double xA)])) _
    refine XS.daddS X218.here hx rfl (hb hby at_301) rfl (by rw [hs0]; exact ys0.noNaN) hs0 ?_
    show Steps p.tables e below (T218.setTop (mkF m 302 #[.val (.int p1), .val (.int p2), .val (.int p3), .val (.int p4), .val (.int p5), .val (.int rA), .val (.int rB), .val (.int rC), .val (.int rU), .val (.int q), .val (.double (FP.i2d sa)), .second, .val (.double (FP.i2d sb)), .second, .val (.double (FP.i2d sc)), .second, .val (.double (FP.i2d ia)), .second, .val (.double (FP.i2d ib)), .second, .val (.double (FP.i2d ic)), .second, .val (.double (FP.i2d ie)), .second, .val (.ref po), .val (.double gg), .second, .val (.double ppa), .second, .val (.double ppb), .second, .val (.double ppc), .second, .val (.int (jA + jB)), .unset, .unset, .unset, .unset, .unset, .unset, .unset, .unset, .unset, .unset, .unset, .unset, .unset] [(.double s0)])) _
    refine XS.dstore X218.here hx rfl (hb hby at_302) rfl (l' := #[.val (.int p1), .val (.int p2), .val (.int p3), .val (.int p4), .val (.int p5), .val (.int rA), .val (.int rB), .val (.int rC), .val (.int rU), .val (.int q), .val (.double (FP.i2d sa)), .second, .val (.double (FP.i2d sb)), .second, .val (.double (FP.i2d sc)), .second, .val (.double (FP.i2d ia)), .second, .val (.double (FP.i2d ib)), .second, .val (.double (FP.i2d ic)), .second, .val (.double (FP.i2d ie)), .second, .val (.ref po), .val (.double gg), .second, .val (.double ppa), .second, .val (.double ppb), .second, .val (.double ppc), .second, .val (.int (jA + jB)), .val (.double s0), .second, .unset, .unset, .unset, .unset, .unset, .unset, .unset, .unset, .unset, .unset, .unset]) rfl ?_
    show Steps p.tables e below (T218.setTop (mkF m 304 #[.val (.int p1), .val (.int p2), .val (.int p3), .val (.int p4), .val (.int p5), .val (.int rA), .val (.int rB), .val (.int rC), .val (.int rU), .val (.int q), .val (.double (FP.i2d sa)), .second, .val (.double (FP.i2d sb)), .second, .val (.double (FP.i2d sc)), .second, .val (.double (FP.i2d ia)), .second, .val (.double (FP.i2d ib)), .second, .val (.double (FP.i2d ic)), .second, .val (.double (FP.i2d ie)), .second, .val (.ref po), .val (.double gg), .second, .val (.double ppa), .second, .val (.double ppb), .second, .val (.double ppc), .second, .val (.int (jA + jB)), .val (.double s0), .second, .unset, .unset, .unset, .unset, .unset, .unset, .unset, .unset, .unset, .unset, .unset] [])) _
    refine XS.iload X218.here hx rfl (hb hby at_304) rfl ?_
    exact Steps.refl _
  obtain ⟨m0, hm0⟩ : ∃ z, z = (jA + jB) := ⟨_, rfl⟩
  have r245 : Steps p.tables e below S0 (T218.setTop (mkF m 306 #[.val (.int p1), .val (.int p2), .val (.int p3), .val (.int p4), .val (.int p5), .val (.int rA), .val (.int rB), .val (.int rC), .val (.int rU), .val (.int q), .val (.double (FP.i2d sa)), .second, .val (.double (FP.i2d sb)), .second, .val (.double (FP.i2d sc)), .second, .val (.double (FP.i2d ia)), .second, .val (.double (FP.i2d ib)), .second, .val (.double (FP.i2d ic)), .second, .val (.double (FP.i2d ie)), .second, .val (.ref po), .val (.double gg), .second, .val (.double ppa), .second, .val (.double ppb), .second, .val (.double ppc), .second, .val (.int m0), .val (.double s0), .second, .unset, .unset, .unset, .unset, .unset, .unset, .unset, .unset, .unset, .unset, .unset] [(.int rC)])) := by rw [hm0]; exact r244
  have r249 : Steps p.tables e below S0 (T218.setTop (mkF m 314 #[.val (.int p1), .val (.int p2), .val (.int p3), .val (.int p4), .val (.int p5), .val (.int rA), .val (.int rB), .val (.int rC), .val (.int rU), .val (.int q), .val (.double (FP.i2d sa)), .second, .val (.double (FP.i2d sb)), .second, .val (.double (FP.i2d sc)), .second, .val (.double (FP.i2d ia)), .second, .val (.double (FP.i2d ib)), .second, .val (.double (FP.i2d ic)), .second, .val (.double (FP.i2d ie)), .second, .val (.ref po), .val (.double gg), .second, .val (.double ppa), .second, .val (.double ppb), .second, .val (.double ppc), .second, .val (.int m0), .val (.double s0), .second, .unset, .unset, .unset, .unset, .unset, .unset, .unset, .unset, .unset, .unset, .unset] [(.int (if rC = (0 : Int32) then (0 : Int32) else (1 : Int32)))])) := by
    refine r245.trans ?_
    by_cases hf246 : rC = (0 : Int32)
    · skip
      rw [show (if rC = (0 : Int32) then (0 : Int32) else (1 : Int32)) = (0 : Int32) from if_pos hf246]
      have q0 : Steps p.tables e below (T218.setTop (mkF m 306 #[.val (.int p1), .val (.int p2), .val (.int p3), .val (.int p4), .val (.int p5), .val (.int rA), .val (.int rB), .val (.int rC), .val (.int rU), .val (.int q), .val (.double (FP.i2d sa)), .second, .val (.double (FP.i2d sb)), .second, .val (.double (FP.i2d sc)), .second, .val (.double (FP.i2d ia)), .second, .val (.double (FP.i2d ib)), .second, .val (.double (FP.i2d ic)), .second, .val (.double (FP.i2d ie)), .second, .val (.ref po), .val (.double gg), .second, .val (.double ppa), .second, .val (.double ppb), .second, .val (.double ppc), .second, .val (.int m0), .val (.double s0), .second, .unset, .unset, .unset, .unset, .unset, .unset, .unset, .unset, .unset, .unset, .unset] [(.int rC)])) (T218.setTop (mkF m 306 #[.val (.int p1), .val (.int p2), .val (.int p3), .val (.int p4), .val (.int p5), .val (.int rA), .val (.int rB), .val (.int rC), .val (.int rU), .val (.int q), .val (.double (FP.i2d sa)), .second, .val (.double (FP.i2d sb)), .second, .val (.double (FP.i2d sc)), .second, .val (.double (FP.i2d ia)), .second, .val (.double (FP.i2d ib)), .second, .val (.double (FP.i2d ic)), .second, .val (.double (FP.i2d ie)), .second, .val (.ref po), .val (.double gg), .second, .val (.double ppa), .second, .val (.double ppb), .second, .val (.double ppc), .second, .val (.int m0), .val (.double s0), .second, .unset, .unset, .unset, .unset, .unset, .unset, .unset, .unset, .unset, .unset, .unset] [(.int rC)])) := Steps.refl _
      have r247 : Steps p.tables e below (T218.setTop (mkF m 306 #[.val (.int p1), .val (.int p2), .val (.int p3), .val (.int p4), .val (.int p5), .val (.int rA), .val (.int rB), .val (.int rC), .val (.int rU), .val (.int q), .val (.double (FP.i2d sa)), .second, .val (.double (FP.i2d sb)), .second, .val (.double (FP.i2d sc)), .second, .val (.double (FP.i2d ia)), .second, .val (.double (FP.i2d ib)), .second, .val (.double (FP.i2d ic)), .second, .val (.double (FP.i2d ie)), .second, .val (.ref po), .val (.double gg), .second, .val (.double ppa), .second, .val (.double ppb), .second, .val (.double ppc), .second, .val (.int m0), .val (.double s0), .second, .unset, .unset, .unset, .unset, .unset, .unset, .unset, .unset, .unset, .unset, .unset] [(.int rC)])) (T218.setTop (mkF m 314 #[.val (.int p1), .val (.int p2), .val (.int p3), .val (.int p4), .val (.int p5), .val (.int rA), .val (.int rB), .val (.int rC), .val (.int rU), .val (.int q), .val (.double (FP.i2d sa)), .second, .val (.double (FP.i2d sb)), .second, .val (.double (FP.i2d sc)), .second, .val (.double (FP.i2d ia)), .second, .val (.double (FP.i2d ib)), .second, .val (.double (FP.i2d ic)), .second, .val (.double (FP.i2d ie)), .second, .val (.ref po), .val (.double gg), .second, .val (.double ppa), .second, .val (.double ppb), .second, .val (.double ppc), .second, .val (.int m0), .val (.double s0), .second, .unset, .unset, .unset, .unset, .unset, .unset, .unset, .unset, .unset, .unset, .unset] [(.int (0 : Int32))])) := by
        refine q0.trans ?_
        show Steps p.tables e below (T218.setTop (mkF m 306 #[.val (.int p1), .val (.int p2), .val (.int p3), .val (.int p4), .val (.int p5), .val (.int rA), .val (.int rB), .val (.int rC), .val (.int rU), .val (.int q), .val (.double (FP.i2d sa)), .second, .val (.double (FP.i2d sb)), .second, .val (.double (FP.i2d sc)), .second, .val (.double (FP.i2d ia)), .second, .val (.double (FP.i2d ib)), .second, .val (.double (FP.i2d ic)), .second, .val (.double (FP.i2d ie)), .second, .val (.ref po), .val (.double gg), .second, .val (.double ppa), .second, .val (.double ppb), .second, .val (.double ppc), .second, .val (.int m0), .val (.double s0), .second, .unset, .unset, .unset, .unset, .unset, .unset, .unset, .unset, .unset, .unset, .unset] [(.int rC)])) _
        refine XS.ifYes X218.here hx rfl (pc0 := 306) (pc' := 313) rfl (hb hby at_306) rfl ((if0 _ _).trans (teq hf246).1) (by decide) (by decide) ?_
        show Steps p.tables e below (T218.setTop (mkF m 313 #[.val (.int p1), .val (.int p2), .val (.int p3), .val (.int p4), .val (.int p5), .val (.int rA), .val (.int rB), .val (.int rC), .val (.int rU), .val (.int q), .val (.double (FP.i2d sa)), .second, .val (.double (FP.i2d sb)), .second, .val (.double (FP.i2d sc)), .second, .val (.double (FP.i2d ia)), .second, .val (.double (FP.i2d ib)), .second, .val (.double (FP.i2d ic)), .second, .val (.double (FP.i2d ie)), .second, .val (.ref po), .val (.double gg), .second, .val (.double ppa), .second, .val (.double ppb), .second, .val (.double ppc), .second, .val (.int m0), .val (.double s0), .second, .unset, .unset, .unset, .unset, .unset, .unset, .unset, .unset, .unset, .unset, .unset] [])) _
        refine XS.iconst X218.here hx rfl (hb hby at_313) ?_
        exact Steps.refl _
      exact r247
    · skip
      rw [show (if rC = (0 : Int32) then (0 : Int32) else (1 : Int32)) = (1 : Int32) from if_neg hf246]
      have q0 : Steps p.tables e below (T218.setTop (mkF m 306 #[.val (.int p1), .val (.int p2), .val (.int p3), .val (.int p4), .val (.int p5), .val (.int rA), .val (.int rB), .val (.int rC), .val (.int rU), .val (.int q), .val (.double (FP.i2d sa)), .second, .val (.double (FP.i2d sb)), .second, .val (.double (FP.i2d sc)), .second, .val (.double (FP.i2d ia)), .second, .val (.double (FP.i2d ib)), .second, .val (.double (FP.i2d ic)), .second, .val (.double (FP.i2d ie)), .second, .val (.ref po), .val (.double gg), .second, .val (.double ppa), .second, .val (.double ppb), .second, .val (.double ppc), .second, .val (.int m0), .val (.double s0), .second, .unset, .unset, .unset, .unset, .unset, .unset, .unset, .unset, .unset, .unset, .unset] [(.int rC)])) (T218.setTop (mkF m 306 #[.val (.int p1), .val (.int p2), .val (.int p3), .val (.int p4), .val (.int p5), .val (.int rA), .val (.int rB), .val (.int rC), .val (.int rU), .val (.int q), .val (.double (FP.i2d sa)), .second, .val (.double (FP.i2d sb)), .second, .val (.double (FP.i2d sc)), .second, .val (.double (FP.i2d ia)), .second, .val (.double (FP.i2d ib)), .second, .val (.double (FP.i2d ic)), .second, .val (.double (FP.i2d ie)), .second, .val (.ref po), .val (.double gg), .second, .val (.double ppa), .second, .val (.double ppb), .second, .val (.double ppc), .second, .val (.int m0), .val (.double s0), .second, .unset, .unset, .unset, .unset, .unset, .unset, .unset, .unset, .unset, .unset, .unset] [(.int rC)])) := Steps.refl _
      have r248 : Steps p.tables e below (T218.setTop (mkF m 306 #[.val (.int p1), .val (.int p2), .val (.int p3), .val (.int p4), .val (.int p5), .val (.int rA), .val (.int rB), .val (.int rC), .val (.int rU), .val (.int q), .val (.double (FP.i2d sa)), .second, .val (.double (FP.i2d sb)), .second, .val (.double (FP.i2d sc)), .second, .val (.double (FP.i2d ia)), .second, .val (.double (FP.i2d ib)), .second, .val (.double (FP.i2d ic)), .second, .val (.double (FP.i2d ie)), .second, .val (.ref po), .val (.double gg), .second, .val (.double ppa), .second, .val (.double ppb), .second, .val (.double ppc), .second, .val (.int m0), .val (.double s0), .second, .unset, .unset, .unset, .unset, .unset, .unset, .unset, .unset, .unset, .unset, .unset] [(.int rC)])) (T218.setTop (mkF m 314 #[.val (.int p1), .val (.int p2), .val (.int p3), .val (.int p4), .val (.int p5), .val (.int rA), .val (.int rB), .val (.int rC), .val (.int rU), .val (.int q), .val (.double (FP.i2d sa)), .second, .val (.double (FP.i2d sb)), .second, .val (.double (FP.i2d sc)), .second, .val (.double (FP.i2d ia)), .second, .val (.double (FP.i2d ib)), .second, .val (.double (FP.i2d ic)), .second, .val (.double (FP.i2d ie)), .second, .val (.ref po), .val (.double gg), .second, .val (.double ppa), .second, .val (.double ppb), .second, .val (.double ppc), .second, .val (.int m0), .val (.double s0), .second, .unset, .unset, .unset, .unset, .unset, .unset, .unset, .unset, .unset, .unset, .unset] [(.int (1 : Int32))])) := by
        refine q0.trans ?_
        show Steps p.tables e below (T218.setTop (mkF m 306 #[.val (.int p1), .val (.int p2), .val (.int p3), .val (.int p4), .val (.int p5), .val (.int rA), .val (.int rB), .val (.int rC), .val (.int rU), .val (.int q), .val (.double (FP.i2d sa)), .second, .val (.double (FP.i2d sb)), .second, .val (.double (FP.i2d sc)), .second, .val (.double (FP.i2d ia)), .second, .val (.double (FP.i2d ib)), .second, .val (.double (FP.i2d ic)), .second, .val (.double (FP.i2d ie)), .second, .val (.ref po), .val (.double gg), .second, .val (.double ppa), .second, .val (.double ppb), .second, .val (.double ppc), .second, .val (.int m0), .val (.double s0), .second, .unset, .unset, .unset, .unset, .unset, .unset, .unset, .unset, .unset, .unset, .unset] [(.int rC)])) _
        refine XS.ifNo X218.here hx rfl (hb hby at_306) rfl ((if0 _ _).trans (feq hf246).1) ?_
        show Steps p.tables e below (T218.setTop (mkF m 309 #[.val (.int p1), .val (.int p2), .val (.int p3), .val (.int p4), .val (.int p5), .val (.int rA), .val (.int rB), .val (.int rC), .val (.int rU), .val (.int q), .val (.double (FP.i2d sa)), .second, .val (.double (FP.i2d sb)), .second, .val (.double (FP.i2d sc)), .second, .val (.double (FP.i2d ia)), .second, .val (.double (FP.i2d ib)), .second, .val (.double (FP.i2d ic)), .second, .val (.double (FP.i2d ie)), .second, .val (.ref po), .val (.double gg), .second, .val (.double ppa), .second, .val (.double ppb), .second, .val (.double ppc), .second, .val (.int m0), .val (.double s0), .second, .unset, .unset, .unset, .unset, .unset, .unset, .unset, .unset, .unset, .unset, .unset] [])) _
        refine XS.iconst X218.here hx rfl (hb hby at_309) ?_
        show Steps p.tables e below (T218.setTop (mkF m 310 #[.val (.int p1), .val (.int p2), .val (.int p3), .val (.int p4), .val (.int p5), .val (.int rA), .val (.int rB), .val (.int rC), .val (.int rU), .val (.int q), .val (.double (FP.i2d sa)), .second, .val (.double (FP.i2d sb)), .second, .val (.double (FP.i2d sc)), .second, .val (.double (FP.i2d ia)), .second, .val (.double (FP.i2d ib)), .second, .val (.double (FP.i2d ic)), .second, .val (.double (FP.i2d ie)), .second, .val (.ref po), .val (.double gg), .second, .val (.double ppa), .second, .val (.double ppb), .second, .val (.double ppc), .second, .val (.int m0), .val (.double s0), .second, .unset, .unset, .unset, .unset, .unset, .unset, .unset, .unset, .unset, .unset, .unset] [(.int (1 : Int32))])) _
        refine XS.goto X218.here hx rfl (pc0 := 310) (pc' := 314) rfl (hb hby at_310) (by decide) (by decide) ?_
        exact Steps.refl _
      exact r248
  have r250 : Steps p.tables e below S0 (T218.setTop (mkF m 316 #[.val (.int p1), .val (.int p2), .val (.int p3), .val (.int p4), .val (.int p5), .val (.int rA), .val (.int rB), .val (.int rC), .val (.int rU), .val (.int q), .val (.double (FP.i2d sa)), .second, .val (.double (FP.i2d sb)), .second, .val (.double (FP.i2d sc)), .second, .val (.double (FP.i2d ia)), .second, .val (.double (FP.i2d ib)), .second, .val (.double (FP.i2d ic)), .second, .val (.double (FP.i2d ie)), .second, .val (.ref po), .val (.double gg), .second, .val (.double ppa), .second, .val (.double ppb), .second, .val (.double ppc), .second, .val (.int m0), .val (.double s0), .second, .val (.int (if rC = (0 : Int32) then (0 : Int32) else (1 : Int32))), .unset, .unset, .unset, .unset, .unset, .unset, .unset, .unset, .unset, .unset] [])) := by
    refine r249.trans ?_
    show Steps p.tables e below (T218.setTop (mkF m 314 #[.val (.int p1), .val (.int p2), .val (.int p3), .val (.int p4), .val (.int p5), .val (.int rA), .val (.int rB), .val (.int rC), .val (.int rU), .val (.int q), .val (.double (FP.i2d sa)), .second, .val (.double (FP.i2d sb)), .second, .val (.double (FP.i2d sc)), .second, .val (.double (FP.i2d ia)), .second, .val (.double (FP.i2d ib)), .second, .val (.double (FP.i2d ic)), .second, .val (.double (FP.i2d ie)), .second, .val (.ref po), .val (.double gg), .second, .val (.double ppa), .second, .val (.double ppb), .second, .val (.double ppc), .second, .val (.int m0), .val (.double s0), .second, .unset, .unset, .unset, .unset, .unset, .unset, .unset, .unset, .unset, .unset, .unset] [(.int (if rC = (0 : Int32) then (0 : Int32) else (1 : Int32)))])) _
    refine XS.istore X218.here hx rfl (hb hby at_314) rfl (l' := #[.val (.int p1), .val (.int p2), .val (.int p3), .val (.int p4), .val (.int p5), .val (.int rA), .val (.int rB), .val (.int rC), .val (.int rU), .val (.int q), .val (.double (FP.i2d sa)), .second, .val (.double (FP.i2d sb)), .second, .val (.double (FP.i2d sc)), .second, .val (.double (FP.i2d ia)), .second, .val (.double (FP.i2d ib)), .second, .val (.double (FP.i2d ic)), .second, .val (.double (FP.i2d ie)), .second, .val (.ref po), .val (.double gg), .second, .val (.double ppa), .second, .val (.double ppb), .second, .val (.double ppc), .second, .val (.int m0), .val (.double s0), .second, .val (.int (if rC = (0 : Int32) then (0 : Int32) else (1 : Int32))), .unset, .unset, .unset, .unset, .unset, .unset, .unset, .unset, .unset, .unset]) rfl ?_
    exact Steps.refl _
  obtain ⟨jC, hjC⟩ : ∃ z, z = (if rC = (0 : Int32) then (0 : Int32) else (1 : Int32)) := ⟨_, rfl⟩
  have r251 : Steps p.tables e below S0 (T218.setTop (mkF m 316 #[.val (.int p1), .val (.int p2), .val (.int p3), .val (.int p4), .val (.int p5), .val (.int rA), .val (.int rB), .val (.int rC), .val (.int rU), .val (.int q), .val (.double (FP.i2d sa)), .second, .val (.double (FP.i2d sb)), .second, .val (.double (FP.i2d sc)), .second, .val (.double (FP.i2d ia)), .second, .val (.double (FP.i2d ib)), .second, .val (.double (FP.i2d ic)), .second, .val (.double (FP.i2d ie)), .second, .val (.ref po), .val (.double gg), .second, .val (.double ppa), .second, .val (.double ppb), .second, .val (.double ppc), .second, .val (.int m0), .val (.double s0), .second, .val (.int jC), .unset, .unset, .unset, .unset, .unset, .unset, .unset, .unset, .unset, .unset] [])) := by rw [hjC]; exact r250
  have r252 : Steps p.tables e below S0 (T218.setTop (mkF m 318 #[.val (.int p1), .val (.int p2), .val (.int p3), .val (.int p4), .val (.int p5), .val (.int rA), .val (.int rB), .val (.int rC), .val (.int rU), .val (.int q), .val (.double (FP.i2d sa)), .second, .val (.double (FP.i2d sb)), .second, .val (.double (FP.i2d sc)), .second, .val (.double (FP.i2d ia)), .second, .val (.double (FP.i2d ib)), .second, .val (.double (FP.i2d ic)), .second, .val (.double (FP.i2d ie)), .second, .val (.ref po), .val (.double gg), .second, .val (.double ppa), .second, .val (.double ppb), .second, .val (.double ppc), .second, .val (.int m0), .val (.double s0), .second, .val (.int jC), .unset, .unset, .unset, .unset, .unset, .unset, .unset, .unset, .unset, .unset] [(.int rC)])) := by
    refine r251.trans ?_
    show Steps p.tables e below (T218.setTop (mkF m 316 #[.val (.int p1), .val (.int p2), .val (.int p3), .val (.int p4), .val (.int p5), .val (.int rA), .val (.int rB), .val (.int rC), .val (.int rU), .val (.int q), .val (.double (FP.i2d sa)), .second, .val (.double (FP.i2d sb)), .second, .val (.double (FP.i2d sc)), .second, .val (.double (FP.i2d ia)), .second, .val (.double (FP.i2d ib)), .second, .val (.double (FP.i2d ic)), .second, .val (.double (FP.i2d ie)), .second, .val (.ref po), .val (.double gg), .second, .val (.double ppa), .second, .val (.double ppb), .second, .val (.double ppc), .second, .val (.int m0), .val (.double s0), .second, .val (.int jC), .unset, .unset, .unset, .unset, .unset, .unset, .unset, .unset, .unset, .unset] [])) _
    refine XS.iload X218.here hx rfl (hb hby at_316) rfl ?_
    exact Steps.refl _
  have r256 : Steps p.tables e below S0 (T218.setTop (mkF m 327 #[.val (.int p1), .val (.int p2), .val (.int p3), .val (.int p4), .val (.int p5), .val (.int rA), .val (.int rB), .val (.int rC), .val (.int rU), .val (.int q), .val (.double (FP.i2d sa)), .second, .val (.double (FP.i2d sb)), .second, .val (.double (FP.i2d sc)), .second, .val (.double (FP.i2d ia)), .second, .val (.double (FP.i2d ib)), .second, .val (.double (FP.i2d ic)), .second, .val (.double (FP.i2d ie)), .second, .val (.ref po), .val (.double gg), .second, .val (.double ppa), .second, .val (.double ppb), .second, .val (.double ppc), .second, .val (.int m0), .val (.double s0), .second, .val (.int jC), .unset, .unset, .unset, .unset, .unset, .unset, .unset, .unset, .unset, .unset] [(.double (if rC = (0 : Int32) then FP.dconst0 else ppc))])) := by
    refine r252.trans ?_
    by_cases hf253 : rC = (0 : Int32)
    · skip
      rw [show (if rC = (0 : Int32) then FP.dconst0 else ppc) = FP.dconst0 from if_pos hf253]
      have q0 : Steps p.tables e below (T218.setTop (mkF m 318 #[.val (.int p1), .val (.int p2), .val (.int p3), .val (.int p4), .val (.int p5), .val (.int rA), .val (.int rB), .val (.int rC), .val (.int rU), .val (.int q), .val (.double (FP.i2d sa)), .second, .val (.double (FP.i2d sb)), .second, .val (.double (FP.i2d sc)), .second, .val (.double (FP.i2d ia)), .second, .val (.double (FP.i2d ib)), .second, .val (.double (FP.i2d ic)), .second, .val (.double (FP.i2d ie)), .second, .val (.ref po), .val (.double gg), .second, .val (.double ppa), .second, .val (.double ppb), .second, .val (.double ppc), .second, .val (.int m0), .val (.double s0), .second, .val (.int jC), .unset, .unset, .unset, .unset, .unset, .unset, .unset, .unset, .unset, .unset] [(.int rC)])) (T218.setTop (mkF m 318 #[.val (.int p1), .val (.int p2), .val (.int p3), .val (.int p4), .val (.int p5), .val (.int rA), .val (.int rB), .val (.int rC), .val (.int rU), .val (.int q), .val (.double (FP.i2d sa)), .second, .val (.double (FP.i2d sb)), .second, .val (.double (FP.i2d sc)), .second, .val (.double (FP.i2d ia)), .second, .val (.double (FP.i2d ib)), .second, .val (.double (FP.i2d ic)), .second, .val (.double (FP.i2d ie)), .second, .val (.ref po), .val (.double gg), .second, .val (.double ppa), .second, .val (.double ppb), .second, .val (.double ppc), .second, .val (.int m0), .val (.double s0), .second, .val (.int jC), .unset, .unset, .unset, .unset, .unset, .unset, .unset, .unset, .unset, .unset] [(.int rC)])) := Steps.refl _
      have r254 : Steps p.tables e below (T218.setTop (mkF m 318 #[.val (.int p1), .val (.int p2), .val (.int p3), .val (.int p4), .val (.int p5), .val (.int rA), .val (.int rB), .val (.int rC), .val (.int rU), .val (.int q), .val (.double (FP.i2d sa)), .second, .val (.double (FP.i2d sb)), .second, .val (.double (FP.i2d sc)), .second, .val (.double (FP.i2d ia)), .second, .val (.double (FP.i2d ib)), .second, .val (.double (FP.i2d ic)), .second, .val (.double (FP.i2d ie)), .second, .val (.ref po), .val (.double gg), .second, .val (.double ppa), .second, .val (.double ppb), .second, .val (.double ppc), .second, .val (.int m0), .val (.double s0), .second, .val (.int jC), .unset, .unset, .unset, .unset, .unset, .unset, .unset, .unset, .unset, .unset] [(.int rC)])) (T218.setTop (mkF m 327 #[.val (.int p1), .val (.int p2), .val (.int p3), .val (.int p4), .val (.int p5), .val (.int rA), .val (.int rB), .val (.int rC), .val (.int rU), .val (.int q), .val (.double (FP.i2d sa)), .second, .val (.double (FP.i2d sb)), .second, .val (.double (FP.i2d sc)), .second, .val (.double (FP.i2d ia)), .second, .val (.double (FP.i2d ib)), .second, .val (.double (FP.i2d ic)), .second, .val (.double (FP.i2d ie)), .second, .val (.ref po), .val (.double gg), .second, .val (.double ppa), .second, .val (.double ppb), .second, .val (.double ppc), .second, .val (.int m0), .val (.double s0), .second, .val (.int jC), .unset, .unset, .unset, .unset, .unset, .unset, .unset, .unset, .unset, .unset] [(.double FP.dconst0)])) := by
        refine q0.trans ?_
        show Steps p.tables e below (T218.setTop (mkF m 318 #[.val (.int p1), .val (.int p2), .val (.int p3), .val (.int p4), .val (.int p5), .val (.int rA), .val (.int rB), .val (.int rC), .val (.int rU), .val (.int q), .val (.double (FP.i2d sa)), .second, .val (.double (FP.i2d sb)), .second, .val (.double (FP.i2d sc)), .second, .val (.double (FP.i2d ia)), .second, .val (.double (FP.i2d ib)), .second, .val (.double (FP.i2d ic)), .second, .val (.double (FP.i2d ie)), .second, .val (.ref po), .val (.double gg), .second, .val (.double ppa), .second, .val (.double ppb), .second, .val (.double ppc), .second, .val (.int m0), .val (.double s0), .second, .val (.int jC), .unset, .unset, .unset, .unset, .unset, .unset, .unset, .unset, .unset, .unset] [(.int rC)])) _
        refine XS.ifYes X218.here hx rfl (pc0 := 318) (pc' := 326) rfl (hb hby at_318) rfl ((if0 _ _).trans (teq hf253).1) (by decide) (by decide) ?_
        show Steps p.tables e below (T218.setTop (mkF m 326 #[.val (.int p1), .val (.int p2), .val (.int p3), .val (.int p4), .val (.int p5), .val (.int rA), .val (.int rB), .val (.int rC), .val (.int rU), .val (.int q), .val (.double (FP.i2d sa)), .second, .val (.double (FP.i2d sb)), .second, .val (.double (FP.i2d sc)), .second, .val (.double (FP.i2d ia)), .second, .val (.double (FP.i2d ib)), .second, .val (.double (FP.i2d ic)), .second, .val (.double (FP.i2d ie)), .second, .val (.ref po), .val (.double gg), .second, .val (.double ppa), .second, .val (.double ppb), .second, .val (.double ppc), .second, .val (.int m0), .val (.double s0), .second, .val (.int jC), .unset, .unset, .unset, .unset, .unset, .unset, .unset, .unset, .unset, .unset] [])) _
        refine XS.dconst0 X218.here hx rfl (hb hby at_326) rfl ?_
        exact Steps.refl _
      exact r254
    · skip
      rw [show (if rC = (0 : Int32) then FP.dconst0 else ppc) = ppc from if_neg hf253]
      have q0 : Steps p.tables e below (T218.setTop (mkF m 318 #[.val (.int p1), .val (.int p2), .val (.int p3), .val (.int p4), .val (.int p5), .val (.int rA), .val (.int rB), .val (.int rC), .val (.int rU), .val (.int q), .val (.double (FP.i2d sa)), .second, .val (.double (FP.i2d sb)), .second, .val (.double (FP.i2d sc)), .second, .val (.double (FP.i2d ia)), .second, .val (.double (FP.i2d ib)), .second, .val (.double (FP.i2d ic)), .second, .val (.double (FP.i2d ie)), .second, .val (.ref po), .val (.double gg), .second, .val (.double ppa), .second, .val (.double ppb), .second, .val (.double ppc), .second, .val (.int m0), .val (.double s0), .second, .val (.int jC), .unset, .unset, .unset, .unset, .unset, .unset, .unset, .unset, .unset, .unset] [(.int rC)])) (T218.setTop (mkF m 318 #[.val (.int p1), .val (.int p2), .val (.int p3), .val (.int p4), .val (.int p5), .val (.int rA), .val (.int rB), .val (.int rC), .val (.int rU), .val (.int q), .val (.double (FP.i2d sa)), .second, .val (.double (FP.i2d sb)), .second, .val (.double (FP.i2d sc)), .second, .val (.double (FP.i2d ia)), .second, .val (.double (FP.i2d ib)), .second, .val (.double (FP.i2d ic)), .second, .val (.double (FP.i2d ie)), .second, .val (.ref po), .val (.double gg), .second, .val (.double ppa), .second, .val (.double ppb), .second, .val (.double ppc), .second, .val (.int m0), .val (.double s0), .second, .val (.int jC), .unset, .unset, .unset, .unset, .unset, .unset, .unset, .unset, .unset, .unset] [(.int rC)])) := Steps.refl _
      have r255 : Steps p.tables e below (T218.setTop (mkF m 318 #[.val (.int p1), .val (.int p2), .val (.int p3), .val (.int p4), .val (.int p5), .val (.int rA), .val (.int rB), .val (.int rC), .val (.int rU), .val (.int q), .val (.double (FP.i2d sa)), .second, .val (.double (FP.i2d sb)), .second, .val (.double (FP.i2d sc)), .second, .val (.double (FP.i2d ia)), .second, .val (.double (FP.i2d ib)), .second, .val (.double (FP.i2d ic)), .second, .val (.double (FP.i2d ie)), .second, .val (.ref po), .val (.double gg), .second, .val (.double ppa), .second, .val (.double ppb), .second, .val (.double ppc), .second, .val (.int m0), .val (.double s0), .second, .val (.int jC), .unset, .unset, .unset, .unset, .unset, .unset, .unset, .unset, .unset, .unset] [(.int rC)])) (T218.setTop (mkF m 327 #[.val (.int p1), .val (.int p2), .val (.int p3), .val (.int p4), .val (.int p5), .val (.int rA), .val (.int rB), .val (.int rC), .val (.int rU), .val (.int q), .val (.double (FP.i2d sa)), .second, .val (.double (FP.i2d sb)), .second, .val (.double (FP.i2d sc)), .second, .val (.double (FP.i2d ia)), .second, .val (.double (FP.i2d ib)), .second, .val (.double (FP.i2d ic)), .second, .val (.double (FP.i2d ie)), .second, .val (.ref po), .val (.double gg), .second, .val (.double ppa), .second, .val (.double ppb), .second, .val (.double ppc), .second, .val (.int m0), .val (.double s0), .second, .val (.int jC), .unset, .unset, .unset, .unset, .unset, .unset, .unset, .unset, .unset, .unset] [(.double ppc)])) := by
        refine q0.trans ?_
        show Steps p.tables e below (T218.setTop (mkF m 318 #[.val (.int p1), .val (.int p2), .val (.int p3), .val (.int p4), .val (.int p5), .val (.int rA), .val (.int rB), .val (.int rC), .val (.int rU), .val (.int q), .val (.double (FP.i2d sa)), .second, .val (.double (FP.i2d sb)), .second, .val (.double (FP.i2d sc)), .second, .val (.double (FP.i2d ia)), .second, .val (.double (FP.i2d ib)), .second, .val (.double (FP.i2d ic)), .second, .val (.double (FP.i2d ie)), .second, .val (.ref po), .val (.double gg), .second, .val (.double ppa), .second, .val (.double ppb), .second, .val (.double ppc), .second, .val (.int m0), .val (.double s0), .second, .val (.int jC), .unset, .unset, .unset, .unset, .unset, .unset, .unset, .unset, .unset, .unset] [(.int rC)])) _
        refine XS.ifNo X218.here hx rfl (hb hby at_318) rfl ((if0 _ _).trans (feq hf253).1) ?_
        show Steps p.tables e below (T218.setTop (mkF m 321 #[.val (.int p1), .val (.int p2), .val (.int p3), .val (.int p4), .val (.int p5), .val (.int rA), .val (.int rB), .val (.int rC), .val (.int rU), .val (.int q), .val (.double (FP.i2d sa)), .second, .val (.double (FP.i2d sb)), .second, .val (.double (FP.i2d sc)), .second, .val (.double (FP.i2d ia)), .second, .val (.double (FP.i2d ib)), .second, .val (.double (FP.i2d ic)), .second, .val (.double (FP.i2d ie)), .second, .val (.ref po), .val (.double gg), .second, .val (.double ppa), .second, .val (.double ppb), .second, .val (.double ppc), .second, .val (.int m0), .val (.double s0), .second, .val (.int jC), .unset, .unset, .unset, .unset, .unset, .unset, .unset, .unset, .unset, .unset] [])) _
        refine XS.dload X218.here hx rfl (hb hby at_321) rfl ?_
        show Steps p.tables e below (T218.setTop (mkF m 323 #[.val (.int p1), .val (.int p2), .val (.int p3), .val (.int p4), .val (.int p5), .val (.int rA), .val (.int rB), .val (.int rC), .val (.int rU), .val (.int q), .val (.double (FP.i2d sa)), .second, .val (.double (FP.i2d sb)), .second, .val (.double (FP.i2d sc)), .second, .val (.double (FP.i2d ia)), .second, .val (.double (FP.i2d ib)), .second, .val (.double (FP.i2d ic)), .second, .val (.double (FP.i2d ie)), .second, .val (.ref po), .val (.double gg), .second, .val (.double ppa), .second, .val (.double ppb), .second, .val (.double ppc), .second, .val (.int m0), .val (.double s0), .second, .val (.int jC), .unset, .unset, .unset, .unset, .unset, .unset, .unset, .unset, .unset, .unset] [(.double ppc)])) _
        refine XS.goto X218.here hx rfl (pc0 := 323) (pc' := 327) rfl (hb hby at_323) (by decide) (by decide) ?_
        exact Steps.refl _
      exact r255
  obtain ⟨xC, hxC⟩ : ∃ z, z = (if rC = (0 : Int32) then FP.dconst0 else ppc) := ⟨_, rfl⟩
  have r257 : Steps p.tables e below S0 (T218.setTop (mkF m 327 #[.val (.int p1), .val (.int p2), .val (.int p3), .val (.int p4), .val (.int p5), .val (.int rA), .val (.int rB), .val (.int rC), .val (.int rU), .val (.int q), .val (.double (FP.i2d sa)), .second, .val (.double (FP.i2d sb)), .second, .val (.double (FP.i2d sc)), .second, .val (.double (FP.i2d ia)), .second, .val (.double (FP.i2d ib)), .second, .val (.double (FP.i2d ic)), .second, .val (.double (FP.i2d ie)), .second, .val (.ref po), .val (.double gg), .second, .val (.double ppa), .second, .val (.double ppb), .second, .val (.double ppc), .second, .val (.int m0), .val (.double s0), .second, .val (.int jC), .unset, .unset, .unset, .unset, .unset, .unset, .unset, .unset, .unset, .unset] [(.double xC)])) := by rw [hxC]; exact r256
  have yxC : Dy XC 3 xC := by
    rw [hXC, hxC]
    by_cases z : rC = (0 : Int32)
    · rw [if_pos z, if_pos z]; exact (dy_zero.scale 3).cast (by rfl) rfl
    · rw [if_neg z, if_neg z]; exact yppc
  have tjC : jC.toInt = NC := by
    rw [hNC, hjC]
    by_cases z : rC = (0 : Int32)
    · rw [if_pos z, if_pos z]; decide
    · rw [if_neg z, if_neg z]; decide
  have tm0 : m0.toInt = NA + NB := by rw [hm0]; have q_ := c_iadd jA jB; have := rng32 (jA + jB); omega
  obtain ⟨sl, hsl⟩ : ∃ z, FP.dadd s0 xC = z := ⟨_, rfl⟩
  have ysl : Dy (XA + XB + XC) 3 sl := hsl ▸ (ys0.add yxC (by omega) (by decide))
  have r258 : Steps p.tables e below S0 (T218.setTop (mkF m 343 #[.val (.int p1), .val (.int p2), .val (.int p3), .val (.int p4), .val (.int p5), .val (.int rA), .val (.int rB), .val (.int rC), .val (.int rU), .val (.int q), .val (.double (FP.i2d sa)), .second, .val (.double (FP.i2d sb)), .second, .val (.double (FP.i2d sc)), .second, .val (.double (FP.i2d ia)), .second, .val (.double (FP.i2d ib)), .second, .val (.double (FP.i2d ic)), .second, .val (.double (FP.i2d ie)), .second, .val (.ref po), .val (.double gg), .second, .val (.double ppa), .second, .val (.double ppb), .second, .val (.double ppc), .second, .val (.int m0), .val (.double s0), .second, .val (.int jC), .val (.double xC), .second, .val (.int (m0 + jC)), .val (.double sl), .second, .unset, .unset, .unset, .unset, .unset] [])) := by
    refine r257.trans ?_
    show Steps p.tables e below (T218.setTop (mkF m 327 #[.val (.int p1), .val (.int p2), .val (.int p3), .val (.int p4), .val (.int p5), .val (.int rA), .val (.int rB), .val (.int rC), .val (.int rU), .val (.int q), .val (.double (FP.i2d sa)), .second, .val (.double (FP.i2d sb)), .second, .val (.double (FP.i2d sc)), .second, .val (.double (FP.i2d ia)), .second, .val (.double (FP.i2d ib)), .second, .val (.double (FP.i2d ic)), .second, .val (.double (FP.i2d ie)), .second, .val (.ref po), .val (.double gg), .second, .val (.double ppa), .second, .val (.double ppb), .second, .val (.double ppc), .second, .val (.int m0), .val (.double s0), .second, .val (.int jC), .unset, .unset, .unset, .unset, .unset, .unset, .unset, .unset, .unset, .unset] [(.double xC)])) _
    refine XS.dstore X218.here hx rfl (hb hby at_327) rfl (l' := #[.val (.int p1), .val (.int p2), .val (.int p3), .val (.int p4), .val (.int p5), .val (.int rA), .val (.int rB), .val (.int rC), .val (.int rU), .val (.int q), .val (.double (FP.i2d sa)), .second, .val (.double (FP.i2d sb)), .second, .val (.double (FP.i2d sc)), .second, .val (.double (FP.i2d ia)), .second, .val (.double (FP.i2d ib)), .second, .val (.double (FP.i2d ic)), .second, .val (.double (FP.i2d ie)), .second, .val (.ref po), .val (.double gg), .second, .val (.double ppa), .second, .val (.double ppb), .second, .val (.double ppc), .second, .val (.int m0), .val (.double s0), .second, .val (.int jC), .val (.double xC), .second, .unset, .unset, .unset, .unset, .unset, .unset, .unset, .unset]) rfl ?_
    show Steps p.tables e below (T218.setTop (mkF m 329 #[.val (.int p1), .val (.int p2), .val (.int p3), .val (.int p4), .val (.int p5), .val (.int rA), .val (.int rB), .val (.int rC), .val (.int rU), .val (.int q), .val (.double (FP.i2d sa)), .second, .val (.double (FP.i2d sb)), .second, .val (.double (FP.i2d sc)), .second, .val (.double (FP.i2d ia)), .second, .val (.double (FP.i2d ib)), .second, .val (.double (FP.i2d ic)), .second, .val (.double (FP.i2d ie)), .second, .val (.ref po), .val (.double gg), .second, .val (.double ppa), .second, .val (.double ppb), .second, .val (.double ppc), .second, .val (.int m0), .val (.double s0), .second, .val (.int jC), .val (.double xC), .second, .unset, .unset, .unset, .unset, .unset, .unset, .unset, .unset] [])) _
    refine XS.iload X218.here hx rfl (hb hby at_329) rfl ?_
    show Steps p.tables e below (T218.setTop (mkF m 331 #[.val (.int p1), .val (.int p2), .val (.int p3), .val (.int p4), .val (.int p5), .val (.int rA), .val (.int rB), .val (.int rC), .val (.int rU), .val (.int q), .val (.double (FP.i2d sa)), .second, .val (.double (FP.i2d sb)), .second, .val (.double (FP.i2d sc)), .second, .val (.double (FP.i2d ia)), .second, .val (.double (FP.i2d ib)), .second, .val (.double (FP.i2d ic)), .second, .val (.double (FP.i2d ie)), .second, .val (.ref po), .val (.double gg), .second, .val (.double ppa), .second, .val (.double ppb), .second, .val (.double ppc), .second, .val (.int m0), .val (.double s0), .second, .val (.int jC), .val (.double xC), .second, .unset, .unset, .unset, .unset, .unset, .unset, .unset, .unset] [(.int m0)])) _
    refine XS.iload X218.here hx rfl (hb hby at_331) rfl ?_
    show Steps p.tables e below (T218.setTop (mkF m 333 #[.val (.int p1), .val (.int p2), .val (.int p3), .val (.int p4), .val (.int p5), .val (.int rA), .val (.int rB), .val (.int rC), .val (.int rU), .val (.int q), .val (.double (FP.i2d sa)), .second, .val (.double (FP.i2d sb)), .second, .val (.double (FP.i2d sc)), .second, .val (.double (FP.i2d ia)), .second, .val (.double (FP.i2d ib)), .second, .val (.double (FP.i2d ic)), .second, .val (.double (FP.i2d ie)), .second, .val (.ref po), .val (.double gg), .second, .val (.double ppa), .second, .val (.double ppb), .second, .val (.double ppc), .second, .val (.int m0), .val (.double s0), .second, .val (.int jC), .val (.double xC), .second, .unset, .unset, .unset, .unset, .unset, .unset, .unset, .unset] [(.int jC), (.int m0)])) _
    refine XS.iadd X218.here hx rfl (hb hby at_333) rfl ?_
    show Steps p.tables e below (T218.setTop (mkF m 334 #[.val (.int p1), .val (.int p2), .val (.int p3), .val (.int p4), .val (.int p5), .val (.int rA), .val (.int rB), .val (.int rC), .val (.int rU), .val (.int q), .val (.double (FP.i2d sa)), .second, .val (.double (FP.i2d sb)), .second, .val (.double (FP.i2d sc)), .second, .val (.double (FP.i2d ia)), .second, .val (.double (FP.i2d ib)), .second, .val (.double (FP.i2d ic)), .second, .val (.double (FP.i2d ie)), .second, .val (.ref po), .val (.double gg), .second, .val (.double ppa), .second, .val (.double ppb), .second, .val (.double ppc), .second, .val (.int m0), .val (.double s0), .second, .val (.int jC), .val (.double xC), .second, .unset, .unset, .unset, .unset, .unset, .unset, .unset, .unset] [(.int (m0 + jC))])) _
    refine XS.istore X218.here hx rfl (hb hby at_334) rfl (l' := #[.val (.int p1), .val (.int p2), .val (.int p3), .val (.int p4), .val (.int p5), .val (.int rA), .val (.int rB), .val (.int rC), .val (.int rU), .val (.int q), .val (.double (FP.i2d sa)), .second, .val (.double (FP.i2d sb)), .second, .val (.double (FP.i2d sc)), .second, .val (.double (FP.i2d ia)), .second, .val (.double (FP.i2d ib)), .second, .val (.double (FP.i2d ic)), .second, .val (.double (FP.i2d ie)), .second, .val (.ref po), .val (.double gg), .second, .val (.double ppa), .second, .val (.double ppb), .second, .val (.double ppc), .second, .val (.int m0), .val (.double s0), .second, .val (.int jC), .val (.double xC), .second, .val (.int (m0 + jC)), .unset, .unset, .unset, .unset, .unset, .unset, .unset]) rfl ?_
    show Steps p.tables e below (T218.setTop (mkF m 336 #[.val (.int p1), .val (.int p2), .val (.int p3), .val (.int p4), .val (.int p5), .val (.int rA), .val (.int rB), .val (.int rC), .val (.int rU), .val (.int q), .val (.double (FP.i2d sa)), .second, .val (.double (FP.i2d sb)), .second, .val (.double (FP.i2d sc)), .second, .val (.double (FP.i2d ia)), .second, .val (.double (FP.i2d ib)), .second, .val (.double (FP.i2d ic)), .second, .val (.double (FP.i2d ie)), .second, .val (.ref po), .val (.double gg), .second, .val (.double ppa), .second, .val (.double ppb), .second, .val (.double ppc), .second, .val (.int m0), .val (.double s0), .second, .val (.int jC), .val (.double xC), .second, .val (.int (m0 + jC)), .unset, .unset, .unset, .unset, .unset, .unset, .unset] [])) _
    refine XS.dload X218.here hx rfl (hb hby at_336) rfl ?_
    show Steps p.tables e below (T218.setTop (mkF m 338 #[.val (.int p1), .val (.int p2), .val (.int p3), .val (.int p4), .val (.int p5), .val (.int rA), .val (.int rB), .val (.int rC), .val (.int rU), .val (.int q), .val (.double (FP.i2d sa)), .second, .val (.double (FP.i2d sb)), .second, .val (.double (FP.i2d sc)), .second, .val (.double (FP.i2d ia)), .second, .val (.double (FP.i2d ib)), .second, .val (.double (FP.i2d ic)), .second, .val (.double (FP.i2d ie)), .second, .val (.ref po), .val (.double gg), .second, .val (.double ppa), .second, .val (.double ppb), .second, .val (.double ppc), .second, .val (.int m0), .val (.double s0), .second, .val (.int jC), .val (.double xC), .second, .val (.int (m0 + jC)), .unset, .unset, .unset, .unset, .unset, .unset, .unset] [(.double s0)])) _
    refine XS.dload X218.here hx rfl (hb hby at_338) rfl ?_
    show Steps p.tables e below (T218.setTop (mkF m 340 #[.val (.int p1), .val (.int p2), .val (.int p3), .val (.int p4), .val (.int p5), .val (.int rA), .val (.int rB), .val (.int rC), .val (.int rU), .val (.int q), .val (.double (FP.i2d sa)), .second, .val (.double (FP.i2d sb)), .second, .val (.double (FP.i2d sc)), .second, .val (.double (FP.i2d ia)), .second, .val (.double (FP.i2d ib)), .second, .val (.double (FP.i2d ic)), .second, .val (.double (FP.i2d ie)), .second, .val (.ref po), .val (.double gg), .second, .val (.double ppa), .second, .val (.double ppb), .second, .val (.double ppc), .second, .val (.int m0), .val (.double s0), .second, .val (.int jC), .val (.double xC), .second, .val (.int (m0 + jC)), .unset, .unset, .unset, .unset, .unset, .unset, .unset] [(.double xC), (.double s0)])) _
    refine XS.daddS X218.here hx rfl (hb hby at_340) rfl (by rw [hsl]; exact ysl.noNaN) hsl ?_
    show Steps p.tables e below (T218.setTop (mkF m 341 #[.val (.int p1), .val (.int p2), .val (.int p3), .val (.int p4), .val (.int p5), .val (.int rA), .val (.int rB), .val (.int rC), .val (.int rU), .val (.int q), .val (.double (FP.i2d sa)), .second, .val (.double (FP.i2d sb)), .second, .val (.double (FP.i2d sc)), .second, .val (.double (FP.i2d ia)), .second, .val (.double (FP.i2d ib)), .second, .val (.double (FP.i2d ic)), .second, .val (.double (FP.i2d ie)), .second, .val (.ref po), .val (.double gg), .second, .val (.double ppa), .second, .val (.double ppb), .second, .val (.double ppc), .second, .val (.int m0), .val (.double s0), .second, .val (.int jC), .val (.double xC), .second, .val (.int (m0 + jC)), .unset, .unset, .unset, .unset, .unset, .unset, .unset] [(.double sl)])) _
    refine XS.dstore X218.here hx rfl (hb hby at_341) rfl (l' := #[.val (.int p1), .val (.int p2), .val (.int p3), .val (.int p4), .val (.int p5), .val (.int rA), .val (.int rB), .val (.int rC), .val (.int rU), .val (.int q), .val (.double (FP.i2d sa)), .second, .val (.double (FP.i2d sb)), .second, .val (.double (FP.i2d sc)), .second, .val (.double (FP.i2d ia)), .second, .val (.double (FP.i2d ib)), .second, .val (.double (FP.i2d ic)), .second, .val (.double (FP.i2d ie)), .second, .val (.ref po), .val (.double gg), .second, .val (.double ppa), .second, .val (.double ppb), .second, .val (.double ppc), .second, .val (.int m0), .val (.double s0), .second, .val (.int jC), .val (.double xC), .second, .val (.int (m0 + jC)), .val (.double sl), .second, .unset, .unset, .unset, .unset, .unset]) rfl ?_
    exact Steps.refl _
  obtain ⟨mz, hmz⟩ : ∃ z, z = (m0 + jC) := ⟨_, rfl⟩
  have r259 : Steps p.tables e below S0 (T218.setTop (mkF m 343 #[.val (.int p1), .val (.int p2), .val (.int p3), .val (.int p4), .val (.int p5), .val (.int rA), .val (.int rB), .val (.int rC), .val (.int rU), .val (.int q), .val (.double (FP.i2d sa)), .second, .val (.double (FP.i2d sb)), .second, .val (.double (FP.i2d sc)), .second, .val (.double (FP.i2d ia)), .second, .val (.double (FP.i2d ib)), .second, .val (.double (FP.i2d ic)), .second, .val (.double (FP.i2d ie)), .second, .val (.ref po), .val (.double gg), .second, .val (.double ppa), .second, .val (.double ppb), .second, .val (.double ppc), .second, .val (.int m0), .val (.double s0), .second, .val (.int jC), .val (.double xC), .second, .val (.int mz), .val (.double sl), .second, .unset, .unset, .unset, .unset, .unset] [])) := by rw [hmz]; exact r258
  have tmz : mz.toInt = NA + NB + NC := by rw [hmz]; have q_ := c_iadd m0 jC; have := rng32 (m0 + jC); omega
  have r260 : Steps p.tables e below S0 (T218.setTop (mkF m 345 #[.val (.int p1), .val (.int p2), .val (.int p3), .val (.int p4), .val (.int p5), .val (.int rA), .val (.int rB), .val (.int rC), .val (.int rU), .val (.int q), .val (.double (FP.i2d sa)), .second, .val (.double (FP.i2d sb)), .second, .val (.double (FP.i2d sc)), .second, .val (.double (FP.i2d ia)), .second, .val (.double (FP.i2d ib)), .second, .val (.double (FP.i2d ic)), .second, .val (.double (FP.i2d ie)), .second, .val (.ref po), .val (.double gg), .second, .val (.double ppa), .second, .val (.double ppb), .second, .val (.double ppc), .second, .val (.int m0), .val (.double s0), .second, .val (.int jC), .val (.double xC), .second, .val (.int mz), .val (.double sl), .second, .unset, .unset, .unset, .unset, .unset] [(.int q)])) := by
    refine r259.trans ?_
    show Steps p.tables e below (T218.setTop (mkF m 343 #[.val (.int p1), .val (.int p2), .val (.int p3), .val (.int p4), .val (.int p5), .val (.int rA), .val (.int rB), .val (.int rC), .val (.int rU), .val (.int q), .val (.double (FP.i2d sa)), .second, .val (.double (FP.i2d sb)), .second, .val (.double (FP.i2d sc)), .second, .val (.double (FP.i2d ia)), .second, .val (.double (FP.i2d ib)), .second, .val (.double (FP.i2d ic)), .second, .val (.double (FP.i2d ie)), .second, .val (.ref po), .val (.double gg), .second, .val (.double ppa), .second, .val (.double ppb), .second, .val (.double ppc), .second, .val (.int m0), .val (.double s0), .second, .val (.int jC), .val (.double xC), .second, .val (.int mz), .val (.double sl), .second, .unset, .unset, .unset, .unset, .unset] [])) _
    refine XS.iload X218.here hx rfl (hb hby at_343) rfl ?_
    exact Steps.refl _
  have r264 : Steps p.tables e below S0 (T218.setTop (mkF m 355 #[.val (.int p1), .val (.int p2), .val (.int p3), .val (.int p4), .val (.int p5), .val (.int rA), .val (.int rB), .val (.int rC), .val (.int rU), .val (.int q), .val (.double (FP.i2d sa)), .second, .val (.double (FP.i2d sb)), .second, .val (.double (FP.i2d sc)), .second, .val (.double (FP.i2d ia)), .second, .val (.double (FP.i2d ib)), .second, .val (.double (FP.i2d ic)), .second, .val (.double (FP.i2d ie)), .second, .val (.ref po), .val (.double gg), .second, .val (.double ppa), .second, .val (.double ppb), .second, .val (.double ppc), .second, .val (.int m0), .val (.double s0), .second, .val (.int jC), .val (.double xC), .second, .val (.int mz), .val (.double sl), .second, .unset, .unset, .unset, .unset, .unset] [(.int (if q = (0 : Int32) then m0 else jC))])) := by
    refine r260.trans ?_
    by_cases hf261 : q = (0 : Int32)
    · skip
      rw [show (if q = (0 : Int32) then m0 else jC) = m0 from if_pos hf261]
      have q0 : Steps p.tables e below (T218.setTop (mkF m 345 #[.val (.int p1), .val (.int p2), .val (.int p3), .val (.int p4), .val (.int p5), .val (.int rA), .val (.int rB), .val (.int rC), .val (.int rU), .val (.int q), .val (.double (FP.i2d sa)), .second, .val (.double (FP.i2d sb)), .second, .val (.double (FP.i2d sc)), .second, .val (.double (FP.i2d ia)), .second, .val (.double (FP.i2d ib)), .second, .val (.double (FP.i2d ic)), .second, .val (.double (FP.i2d ie)), .second, .val (.ref po), .val (.double gg), .second, .val (.double ppa), .second, .val (.double ppb), .second, .val (.double ppc), .second, .val (.int m0), .val (.double s0), .second, .val (.int jC), .val (.double xC), .second, .val (.int mz), .val (.double sl), .second, .unset, .unset, .unset, .unset, .unset] [(.int q)])) (T218.setTop (mkF m 345 #[.val (.int p1), .val (.int p2), .val (.int p3), .val (.int p4), .val (.int p5), .val (.int rA), .val (.int rB), .val (.int rC), .val (.int rU), .val (.int q), .val (.double (FP.i2d sa)), .second, .val (.double (FP.i2d sb)), .second, .val (.double (FP.i2d sc)), .second, .val (.double (FP.i2d ia)), .second, .val (.double (FP.i2d ib)), .second, .val (.double (FP.i2d ic)), .second, .val (.double (FP.i2d ie)), .second, .val (.ref po), .val (.double gg), .second, .val (.double ppa), .second, .val (.double ppb), .second, .val (.double ppc), .second, .val (.int m0), .val (.double s0), .second, .val (.int jC), .val (.double xC), .second, .val (.int mz), .val (.double sl), .second, .unset, .unset, .unset, .unset, .unset] [(.int q)])) := Steps.refl _
      have r262 : Steps p.tables e below (T218.setTop (mkF m 345 #[.val (.int p1), .val (.int p2), .val (.int p3), .val (.int p4), .val (.int p5), .val (.int rA), .val (.int rB), .val (.int rC), .val (.int rU), .val (.int q), .val (.double (FP.i2d sa)), .second, .val (.double (FP.i2d sb)), .second, .val (.double (FP.i2d sc)), .second, .val (.double (FP.i2d ia)), .second, .val (.double (FP.i2d ib)), .second, .val (.double (FP.i2d ic)), .second, .val (.double (FP.i2d ie)), .second, .val (.ref po), .val (.double gg), .second, .val (.double ppa), .second, .val (.double ppb), .second, .val (.double ppc), .second, .val (.int m0), .val (.double s0), .second, .val (.int jC), .val (.double xC), .second, .val (.int mz), .val (.double sl), .second, .unset, .unset, .unset, .unset, .unset] [(.int q)])) (T218.setTop (mkF m 355 #[.val (.int p1), .val (.int p2), .val (.int p3), .val (.int p4), .val (.int p5), .val (.int rA), .val (.int rB), .val (.int rC), .val (.int rU), .val (.int q), .val (.double (FP.i2d sa)), .second, .val (.double (FP.i2d sb)), .second, .val (.double (FP.i2d sc)), .second, .val (.double (FP.i2d ia)), .second, .val (.double (FP.i2d ib)), .second, .val (.double (FP.i2d ic)), .second, .val (.double (FP.i2d ie)), .second, .val (.ref po), .val (.double gg), .second, .val (.double ppa), .second, .val (.double ppb), .second, .val (.double ppc), .second, .val (.int m0), .val (.double s0), .second, .val (.int jC), .val (.double xC), .second, .val (.int mz), .val (.double sl), .second, .unset, .unset, .unset, .unset, .unset] [(.int m0)])) := by
        refine q0.trans ?_
        show Steps p.tables e below (T218.setTop (mkF m 345 #[.val (.int p1), .val (.int p2), .val (.int p3), .val (.int p4), .val (.int p5), .val (.int rA), .val (.int rB), .val (.int rC), .val (.int rU), .val (.int q), .val (.double (FP.i2d sa)), .second, .val (.double (FP.i2d sb)), .second, .val (.double (FP.i2d sc)), .second, .val (.double (FP.i2d ia)), .second, .val (.double (FP.i2d ib)), .second, .val (.double (FP.i2d ic)), .second, .val (.double (FP.i2d ie)), .second, .val (.ref po), .val (.double gg), .second, .val (.double ppa), .second, .val (.double ppb), .second, .val (.double ppc), .second, .val (.int m0), .val (.double s0), .second, .val (.int jC), .val (.double xC), .second, .val (.int mz), .val (.double sl), .second, .unset, .unset, .unset, .unset, .unset] [(.int q)])) _
        refine XS.ifNo X218.here hx rfl (hb hby at_345) rfl ((if0 _ _).trans (teq hf261).2) ?_
        show Steps p.tables e below (T218.setTop (mkF m 348 #[.val (.int p1), .val (.int p2), .val (.int p3), .val (.int p4), .val (.int p5), .val (.int rA), .val (.int rB), .val (.int rC), .val (.int rU), .val (.int q), .val (.double (FP.i2d sa)), .second, .val (.double (FP.i2d sb)), .second, .val (.double (FP.i2d sc)), .second, .val (.double (FP.i2d ia)), .second, .val (.double (FP.i2d ib)), .second, .val (.double (FP.i2d ic)), .second, .val (.double (FP.i2d ie)), .second, .val (.ref po), .val (.double gg), .second, .val (.double ppa), .second, .val (.double ppb), .second, .val (.double ppc), .second, .val (.int m0), .val (.double s0), .second, .val (.int jC), .val (.double xC), .second, .val (.int mz), .val (.double sl), .second, .unset, .unset, .unset, .unset, .unset] [])) _
        refine XS.iload X218.here hx rfl (hb hby at_348) rfl ?_
        show Steps p.tables e below (T218.setTop (mkF m 350 #[.val (.int p1), .val (.int p2), .val (.int p3), .val (.int p4), .val (.int p5), .val (.int rA), .val (.int rB), .val (.int rC), .val (.int rU), .val (.int q), .val (.double (FP.i2d sa)), .second, .val (.double (FP.i2d sb)), .second, .val (.double (FP.i2d sc)), .second, .val (.double (FP.i2d ia)), .second, .val (.double (FP.i2d ib)), .second, .val (.double (FP.i2d ic)), .second, .val (.double (FP.i2d ie)), .second, .val (.ref po), .val (.double gg), .second, .val (.double ppa), .second, .val (.double ppb), .second, .val (.double ppc), .second, .val (.int m0), .val (.double s0), .second, .val (.int jC), .val (.double xC), .second, .val (.int mz), .val (.double sl), .second, .unset, .unset, .unset, .unset, .unset] [(.int m0)])) _
        refine XS.goto X218.here hx rfl (pc0 := 350) (pc' := 355) rfl (hb hby at_350) (by decide) (by decide) ?_
        exact Steps.refl _
      exact r262
    · skip
      rw [show (if q = (0 : Int32) then m0 else jC) = jC from if_neg hf261]
      have q0 : Steps p.tables e below (T218.setTop (mkF m 345 #[.val (.int p1), .val (.int p2), .val (.int p3), .val (.int p4), .val (.int p5), .val (.int rA), .val (.int rB), .val (.int rC), .val (.int rU), .val (.int q), .val (.double (FP.i2d sa)), .second, .val (.double (FP.i2d sb)), .second, .val (.double (FP.i2d sc)), .second, .val (.double (FP.i2d ia)), .second, .val (.double (FP.i2d ib)), .second, .val (.double (FP.i2d ic)), .second, .val (.double (FP.i2d ie)), .second, .val (.ref po), .val (.double gg), .second, .val (.double ppa), .second, .val (.double ppb), .second, .val (.double ppc), .second, .val (.int m0), .val (.double s0), .second, .val (.int jC), .val (.double xC), .second, .val (.int mz), .val (.double sl), .second, .unset, .unset, .unset, .unset, .unset] [(.int q)])) (T218.setTop (mkF m 345 #[.val (.int p1), .val (.int p2), .val (.int p3), .val (.int p4), .val (.int p5), .val (.int rA), .val (.int rB), .val (.int rC), .val (.int rU), .val (.int q), .val (.double (FP.i2d sa)), .second, .val (.double (FP.i2d sb)), .second, .val (.double (FP.i2d sc)), .second, .val (.double (FP.i2d ia)), .second, .val (.double (FP.i2d ib)), .second, .val (.double (FP.i2d ic)), .second, .val (.double (FP.i2d ie)), .second, .val (.ref po), .val (.double gg), .second, .val (.double ppa), .second, .val (.double ppb), .second, .val (.double ppc), .second, .val (.int m0), .val (.double s0), .second, .val (.int jC), .val (.double xC), .second, .val (.int mz), .val (.double sl), .second, .unset, .unset, .unset, .unset, .unset] [(.int q)])) := Steps.refl _
      have r263 : Steps p.tables e below (T218.setTop (mkF m 345 #[.val (.int p1), .val (.int p2), .val (.int p3), .val (.int p4), .val (.int p5), .val (.int rA), .val (.int rB), .val (.int rC), .val (.int rU), .val (.int q), .val (.double (FP.i2d sa)), .second, .val (.double (FP.i2d sb)), .second, .val (.double (FP.i2d sc)), .second, .val (.double (FP.i2d ia)), .second, .val (.double (FP.i2d ib)), .second, .val (.double (FP.i2d ic)), .second, .val (.double (FP.i2d ie)), .second, .val (.ref po), .val (.double gg), .second, .val (.double ppa), .second, .val (.double ppb), .second, .val (.double ppc), .second, .val (.int m0), .val (.double s0), .second, .val (.int jC), .val (.double xC), .second, .val (.int mz), .val (.double sl), .second, .unset, .unset, .unset, .unset, .unset] [(.int q)])) (T218.setTop (mkF m 355 #[.val (.int p1), .val (.int p2), .val (.int p3), .val (.int p4), .val (.int p5), .val (.int rA), .val (.int rB), .val (.int rC), .val (.int rU), .val (.int q), .val (.double (FP.i2d sa)), .second, .val (.double (FP.i2d sb)), .second, .val (.double (FP.i2d sc)), .second, .val (.double (FP.i2d ia)), .second, .val (.double (FP.i2d ib)), .second, .val (.double (FP.i2d ic)), .second, .val (.double (FP.i2d ie)), .second, .val (.ref po), .val (.double gg), .second, .val (.double ppa), .second, .val (.double ppb), .second, .val (.double ppc), .second, .val (.int m0), .val (.double s0), .second, .val (.int jC), .val (.double xC), .second, .val (.int mz), .val (.double sl), .second, .unset, .unset, .unset, .unset, .unset] [(.int jC)])) := by
        refine q0.trans ?_
        show Steps p.tables e below (T218.setTop (mkF m 345 #[.val (.int p1), .val (.int p2), .val (.int p3), .val (.int p4), .val (.int p5), .val (.int rA), .val (.int rB), .val (.int rC), .val (.int rU), .val (.int q), .val (.double (FP.i2d sa)), .second, .val (.double (FP.i2d sb)), .second, .val (.double (FP.i2d sc)), .second, .val (.double (FP.i2d ia)), .second, .val (.double (FP.i2d ib)), .second, .val (.double (FP.i2d ic)), .second, .val (.double (FP.i2d ie)), .second, .val (.ref po), .val (.double gg), .second, .val (.double ppa), .second, .val (.double ppb), .second, .val (.double ppc), .second, .val (.int m0), .val (.double s0), .second, .val (.int jC), .val (.double xC), .second, .val (.int mz), .val (.double sl), .second, .unset, .unset, .unset, .unset, .unset] [(.int q)])) _
        refine XS.ifYes X218.here hx rfl (pc0 := 345) (pc' := 353) rfl (hb hby at_345) rfl ((if0 _ _).trans (feq hf261).2) (by decide) (by decide) ?_
        show Steps p.tables e below (T218.setTop (mkF m 353 #[.val (.int p1), .val (.int p2), .val (.int p3), .val (.int p4), .val (.int p5), .val (.int rA), .val (.int rB), .val (.int rC), .val (.int rU), .val (.int q), .val (.double (FP.i2d sa)), .second, .val (.double (FP.i2d sb)), .second, .val (.double (FP.i2d sc)), .second, .val (.double (FP.i2d ia)), .second, .val (.double (FP.i2d ib)), .second, .val (.double (FP.i2d ic)), .second, .val (.double (FP.i2d ie)), .second, .val (.ref po), .val (.double gg), .second, .val (.double ppa), .second, .val (.double ppb), .second, .val (.double ppc), .second, .val (.int m0), .val (.double s0), .second, .val (.int jC), .val (.double xC), .second, .val (.int mz), .val (.double sl), .second, .unset, .unset, .unset, .unset, .unset] [])) _
        refine XS.iload X218.here hx rfl (hb hby at_353) rfl ?_
        exact Steps.refl _
      exact r263
  have r265 : Steps p.tables e below S0 (T218.setTop (mkF m 357 #[.val (.int p1), .val (.int p2), .val (.int p3), .val (.int p4), .val (.int p5), .val (.int rA), .val (.int rB), .val (.int rC), .val (.int rU), .val (.int q), .val (.double (FP.i2d sa)), .second, .val (.double (FP.i2d sb)), .second, .val (.double (FP.i2d sc)), .second, .val (.double (FP.i2d ia)), .second, .val (.double (FP.i2d ib)), .second, .val (.double (FP.i2d ic)), .second, .val (.double (FP.i2d ie)), .second, .val (.ref po), .val (.double gg), .second, .val (.double ppa), .second, .val (.double ppb), .second, .val (.double ppc), .second, .val (.int m0), .val (.double s0), .second, .val (.int jC), .val (.double xC), .second, .val (.int mz), .val (.double sl), .second, .val (.int (if q = (0 : Int32) then m0 else jC)), .unset, .unset, .unset, .unset] [])) := by
    refine r264.trans ?_
    show Steps p.tables e below (T218.setTop (mkF m 355 #[.val (.int p1), .val (.int p2), .val (.int p3), .val (.int p4), .val (.int p5), .val (.int rA), .val (.int rB), .val (.int rC), .val (.int rU), .val (.int q), .val (.double (FP.i2d sa)), .second, .val (.double (FP.i2d sb)), .second, .val (.double (FP.i2d sc)), .second, .val (.double (FP.i2d ia)), .second, .val (.double (FP.i2d ib)), .second, .val (.double (FP.i2d ic)), .second, .val (.double (FP.i2d ie)), .second, .val (.ref po), .val (.double gg), .second, .val (.double ppa), .second, .val (.double ppb), .second, .val (.double ppc), .second, .val (.int m0), .val (.double s0), .second, .val (.int jC), .val (.double xC), .second, .val (.int mz), .val (.double sl), .second, .unset, .unset, .unset, .unset, .unset] [(.int (if q = (0 : Int32) then m0 else jC))])) _
    refine XS.istore X218.here hx rfl (hb hby at_355) rfl (l' := #[.val (.int p1), .val (.int p2), .val (.int p3), .val (.int p4), .val (.int p5), .val (.int rA), .val (.int rB), .val (.int rC), .val (.int rU), .val (.int q), .val (.double (FP.i2d sa)), .second, .val (.double (FP.i2d sb)), .second, .val (.double (FP.i2d sc)), .second, .val (.double (FP.i2d ia)), .second, .val (.double (FP.i2d ib)), .second, .val (.double (FP.i2d ic)), .second, .val (.double (FP.i2d ie)), .second, .val (.ref po), .val (.double gg), .second, .val (.double ppa), .second, .val (.double ppb), .second, .val (.double ppc), .second, .val (.int m0), .val (.double s0), .second, .val (.int jC), .val (.double xC), .second, .val (.int mz), .val (.double sl), .second, .val (.int (if q = (0 : Int32) then m0 else jC)), .unset, .unset, .unset, .unset]) rfl ?_
    exact Steps.refl _
  obtain ⟨nq, hnq⟩ : ∃ z, z = (if q = (0 : Int32) then m0 else jC) := ⟨_, rfl⟩
  have r266 : Steps p.tables e below S0 (T218.setTop (mkF m 357 #[.val (.int p1), .val (.int p2), .val (.int p3), .val (.int p4), .val (.int p5), .val (.int rA), .val (.int rB), .val (.int rC), .val (.int rU), .val (.int q), .val (.double (FP.i2d sa)), .second, .val (.double (FP.i2d sb)), .second, .val (.double (FP.i2d sc)), .second, .val (.double (FP.i2d ia)), .second, .val (.double (FP.i2d ib)), .second, .val (.double (FP.i2d ic)), .second, .val (.double (FP.i2d ie)), .second, .val (.ref po), .val (.double gg), .second, .val (.double ppa), .second, .val (.double ppb), .second, .val (.double ppc), .second, .val (.int m0), .val (.double s0), .second, .val (.int jC), .val (.double xC), .second, .val (.int mz), .val (.double sl), .second, .val (.int nq), .unset, .unset, .unset, .unset] [])) := by rw [hnq]; exact r265
  have r267 : Steps p.tables e below S0 (T218.setTop (mkF m 359 #[.val (.int p1), .val (.int p2), .val (.int p3), .val (.int p4), .val (.int p5), .val (.int rA), .val (.int rB), .val (.int rC), .val (.int rU), .val (.int q), .val (.double (FP.i2d sa)), .second, .val (.double (FP.i2d sb)), .second, .val (.double (FP.i2d sc)), .second, .val (.double (FP.i2d ia)), .second, .val (.double (FP.i2d ib)), .second, .val (.double (FP.i2d ic)), .second, .val (.double (FP.i2d ie)), .second, .val (.ref po), .val (.double gg), .second, .val (.double ppa), .second, .val (.double ppb), .second, .val (.double ppc), .second, .val (.int m0), .val (.double s0), .second, .val (.int jC), .val (.double xC), .second, .val (.int mz), .val (.double sl), .second, .val (.int nq), .unset, .unset, .unset, .unset] [(.int q)])) := by
    refine r266.trans ?_
    show Steps p.tables e below (T218.setTop (mkF m 357 #[.val (.int p1), .val (.int p2), .val (.int p3), .val (.int p4), .val (.int p5), .val (.int rA), .val (.int rB), .val (.int rC), .val (.int rU), .val (.int q), .val (.double (FP.i2d sa)), .second, .val (.double (FP.i2d sb)), .second, .val (.double (FP.i2d sc)), .second, .val (.double (FP.i2d ia)), .second, .val (.double (FP.i2d ib)), .second, .val (.double (FP.i2d ic)), .second, .val (.double (FP.i2d ie)), .second, .val (.ref po), .val (.double gg), .second, .val (.double ppa), .second, .val (.double ppb), .second, .val (.double ppc), .second, .val (.int m0), .val (.double s0), .second, .val (.int jC), .val (.double xC), .second, .val (.int mz), .val (.double sl), .second, .val (.int nq), .unset, .unset, .unset, .unset] [])) _
    refine XS.iload X218.here hx rfl (hb hby at_357) rfl ?_
    exact Steps.refl _
  have r271 : Steps p.tables e below S0 (T218.setTop (mkF m 369 #[.val (.int p1), .val (.int p2), .val (.int p3), .val (.int p4), .val (.int p5), .val (.int rA), .val (.int rB), .val (.int rC), .val (.int rU), .val (.int q), .val (.double (FP.i2d sa)), .second, .val (.double (FP.i2d sb)), .second, .val (.double (FP.i2d sc)), .second, .val (.double (FP.i2d ia)), .second, .val (.double (FP.i2d ib)), .second, .val (.double (FP.i2d ic)), .second, .val (.double (FP.i2d ie)), .second, .val (.ref po), .val (.double gg), .second, .val (.double ppa), .second, .val (.double ppb), .second, .val (.double ppc), .second, .val (.int m0), .val (.double s0), .second, .val (.int jC), .val (.double xC), .second, .val (.int mz), .val (.double sl), .second, .val (.int nq), .unset, .unset, .unset, .unset] [(.double (if q = (0 : Int32) then s0 else xC))])) := by
    refine r267.trans ?_
    by_cases hf268 : q = (0 : Int32)
    · skip
      rw [show (if q = (0 : Int32) then s0 else xC) = s0 from if_pos hf268]
      have q0 : Steps p.tables e below (T218.setTop (mkF m 359 #[.val (.int p1), .val (.int p2), .val (.int p3), .val (.int p4), .val (.int p5), .val (.int rA), .val (.int rB), .val (.int rC), .val (.int rU), .val (.int q), .val (.double (FP.i2d sa)), .second, .val (.double (FP.i2d sb)), .second, .val (.double (FP.i2d sc)), .second, .val (.double (FP.i2d ia)), .second, .val (.double (FP.i2d ib)), .second, .val (.double (FP.i2d ic)), .second, .val (.double (FP.i2d ie)), .second, .val (.ref po), .val (.double gg), .second, .val (.double ppa), .second, .val (.double ppb), .second, .val (.double ppc), .second, .val (.int m0), .val (.double s0), .second, .val (.int jC), .val (.double xC), .second, .val (.int mz), .val (.double sl), .second, .val (.int nq), .unset, .unset, .unset, .unset] [(.int q)])) (T218.setTop (mkF m 359 #[.val (.int p1), .val (.int p2), .val (.int p3), .val (.int p4), .val (.int p5), .val (.int rA), .val (.int rB), .val (.int rC), .val (.int rU), .val (.int q), .val (.double (FP.i2d sa)), .second, .val (.double (FP.i2d sb)), .second, .val (.double (FP.i2d sc)), .second, .val (.double (FP.i2d ia)), .second, .val (.double (FP.i2d ib)), .second, .val (.double (FP.i2d ic)), .second, .val (.double (FP.i2d ie)), .second, .val (.ref po), .val (.double gg), .second, .val (.double ppa), .second, .val (.double ppb), .second, .val (.double ppc), .second, .val (.int m0), .val (.double s0), .second, .val (.int jC), .val (.double xC), .second, .val (.int mz), .val (.double sl), .second, .val (.int nq), .unset, .unset, .unset, .unset] [(.int q)])) := Steps.refl _
      have r269 : Steps p.tables e below (T218.setTop (mkF m 359 #[.val (.int p1), .val (.int p2), .val (.int p3), .val (.int p4), .val (.int p5), .val (.int rA), .val (.int rB), .val (.int rC), .val (.int rU), .val (.int q), .val (.double (FP.i2d sa)), .second, .val (.double (FP.i2d sb)), .second, .val (.double (FP.i2d sc)), .second, .val (.double (FP.i2d ia)), .second, .val (.double (FP.i2d ib)), .second, .val (.double (FP.i2d ic)), .second, .val (.double (FP.i2d ie)), .second, .val (.ref po), .val (.double gg), .second, .val (.double ppa), .second, .val (.double ppb), .second, .val (.double ppc), .second, .val (.int m0), .val (.double s0), .second, .val (.int jC), .val (.double xC), .second, .val (.int mz), .val (.double sl), .second, .val (.int nq), .unset, .unset, .unset, .unset] [(.int q)])) (T218.setTop (mkF m 369 #[.val (.int p1), .val (.int p2), .val (.int p3), .val (.int p4), .val (.int p5), .val (.int rA), .val (.int rB), .val (.int rC), .val (.int rU), .val (.int q), .val (.double (FP.i2d sa)), .second, .val (.double (FP.i2d sb)), .second, .val (.double (FP.i2d sc)), .second, .val (.double (FP.i2d ia)), .second, .val (.double (FP.i2d ib)), .second, .val (.double (FP.i2d ic)), .second, .val (.double (FP.i2d ie)), .second, .val (.ref po), .val (.double gg), .second, .val (.double ppa), .second, .val (.double ppb), .second, .val (.double ppc), .second, .val (.int m0), .val (.double s0), .second, .val (.int jC), .val (.double xC), .second, .val (.int mz), .val (.double sl), .second, .val (.int nq), .unset, .unset, .unset, .unset] [(.double s0)])) := by
        refine q0.trans ?_
        show Steps p.tables e below (T218.setTop (mkF m 359 #[.val (.int p1), .val (.int p2), .val (.int p3), .val (.int p4), .val (.int p5), .val (.int rA), .val (.int rB), .val (.int rC), .val (.int rU), .val (.int q), .val (.double (FP.i2d sa)), .second, .val (.double (FP.i2d sb)), .second, .val (.double (FP.i2d sc)), .second, .val (.double (FP.i2d ia)), .second, .val (.double (FP.i2d ib)), .second, .val (.double (FP.i2d ic)), .second, .val (.double (FP.i2d ie)), .second, .val (.ref po), .val (.double gg), .second, .val (.double ppa), .second, .val (.double ppb), .second, .val (.double ppc), .second, .val (.int m0), .val (.double s0), .second, .val (.int jC), .val (.double xC), .second, .val (.int mz), .val (.double sl), .second, .val (.int nq), .unset, .unset, .unset, .unset] [(.int q)])) _
        refine XS.ifNo X218.here hx rfl (hb hby at_359) rfl ((if0 _ _).trans (teq hf268).2) ?_
        show Steps p.tables e below (T218.setTop (mkF m 362 #[.val (.int p1), .val (.int p2), .val (.int p3), .val (.int p4), .val (.int p5), .val (.int rA), .val (.int rB), .val (.int rC), .val (.int rU), .val (.int q), .val (.double (FP.i2d sa)), .second, .val (.double (FP.i2d sb)), .second, .val (.double (FP.i2d sc)), .second, .val (.double (FP.i2d ia)), .second, .val (.double (FP.i2d ib)), .second, .val (.double (FP.i2d ic)), .second, .val (.double (FP.i2d ie)), .second, .val (.ref po), .val (.double gg), .second, .val (.double ppa), .second, .val (.double ppb), .second, .val (.double ppc), .second, .val (.int m0), .val (.double s0), .second, .val (.int jC), .val (.double xC), .second, .val (.int mz), .val (.double sl), .second, .val (.int nq), .unset, .unset, .unset, .unset] [])) _
        refine XS.dload X218.here hx rfl (hb hby at_362) rfl ?_
        show Steps p.tables e below (T218.setTop (mkF m 364 #[.val (.int p1), .val (.int p2), .val (.int p3), .val (.int p4), .val (.int p5), .val (.int rA), .val (.int rB), .val (.int rC), .val (.int rU), .val (.int q), .val (.double (FP.i2d sa)), .second, .val (.double (FP.i2d sb)), .second, .val (.double (FP.i2d sc)), .second, .val (.double (FP.i2d ia)), .second, .val (.double (FP.i2d ib)), .second, .val (.double (FP.i2d ic)), .second, .val (.double (FP.i2d ie)), .second, .val (.ref po), .val (.double gg), .second, .val (.double ppa), .second, .val (.double ppb), .second, .val (.double ppc), .second, .val (.int m0), .val (.double s0), .second, .val (.int jC), .val (.double xC), .second, .val (.int mz), .val (.double sl), .second, .val (.int nq), .unset, .unset, .unset, .unset] [(.double s0)])) _
        refine XS.goto X218.here hx rfl (pc0 := 364) (pc' := 369) rfl (hb hby at_364) (by decide) (by decide) ?_
        exact Steps.refl _
      exact r269
    · skip
      rw [show (if q = (0 : Int32) then s0 else xC) = xC from if_neg hf268]
      have q0 : Steps p.tables e below (T218.setTop (mkF m 359 #[.val (.int p1), .val (.int p2), .val (.int p3), .val (.int p4), .val (.int p5), .val (.int rA), .val (.int rB), .val (.int rC), .val (.int rU), .val (.int q), .val (.double (FP.i2d sa)), .second, .val (.double (FP.i2d sb)), .second, .val (.double (FP.i2d sc)), .second, .val (.double (FP.i2d ia)), .second, .val (.double (FP.i2d ib)), .second, .val (.double (FP.i2d ic)), .second, .val (.double (FP.i2d ie)), .second, .val (.ref po), .val (.double gg), .second, .val (.double ppa), .second, .val (.double ppb), .second, .val (.double ppc), .second, .val (.int m0), .val (.double s0), .second, .val (.int jC), .val (.double xC), .second, .val (.int mz), .val (.double sl), .second, .val (.int nq), .unset, .unset, .unset, .unset] [(.int q)])) (T218.setTop (mkF m 359 #[.val (.int p1), .val (.int p2), .val (.int p3), .val (.int p4), .val (.int p5), .val (.int rA), .val (.int rB), .val (.int rC), .val (.int rU), .val (.int q), .val (.double (FP.i2d sa)), .second, .val (.double (FP.i2d sb)), .second, .val (.double (FP.i2d sc)), .second, .val (.double (FP.i2d ia)), .second, .val (.double (FP.i2d ib)), .second, .val (.double (FP.i2d ic)), .second, .val (.double (FP.i2d ie)), .second, .val (.ref po), .val (.double gg), .second, .val (.double ppa), .second, .val (.double ppb), .second, .val (.double ppc), .second, .val (.int m0), .val (.double s0), .second, .val (.int jC), .val (.double xC), .second, .val (.int mz), .val (.double sl), .second, .val (.int nq), .unset, .unset, .unset, .unset] [(.int q)])) := Steps.refl _
      have r270 : Steps p.tables e below (T218.setTop (mkF m 359 #[.val (.int p1), .val (.int p2), .val (.int p3), .val (.int p4), .val (.int p5), .val (.int rA), .val (.int rB), .val (.int rC), .val (.int rU), .val (.int q), .val (.double (FP.i2d sa)), .second, .val (.double (FP.i2d sb)), .second, .val (.double (FP.i2d sc)), .second, .val (.double (FP.i2d ia)), .second, .val (.double (FP.i2d ib)), .second, .val (.double (FP.i2d ic)), .second, .val (.double (FP.i2d ie)), .second, .val (.ref po), .val (.double gg), .second, .val (.double ppa), .second, .val (.double ppb), .second, .val (.double ppc), .second, .val (.int m0), .val (.double s0), .second, .val (.int jC), .val (.double xC), .second, .val (.int mz), .val (.double sl), .second, .val (.int nq), .unset, .unset, .unset, .unset] [(.int q)])) (T218.setTop (mkF m 369 #[.val (.int p1), .val (.int p2), .val (.int p3), .val (.int p4), .val (.int p5), .val (.int rA), .val (.int rB), .val (.int rC), .val (.int rU), .val (.int q), .val (.double (FP.i2d sa)), .second, .val (.double (FP.i2d sb)), .second, .val (.double (FP.i2d sc)), .second, .val (.double (FP.i2d ia)), .second, .val (.double (FP.i2d ib)), .second, .val (.double (FP.i2d ic)), .second, .val (.double (FP.i2d ie)), .second, .val (.ref po), .val (.double gg), .second, .val (.double ppa), .second, .val (.double ppb), .second, .val (.double ppc), .second, .val (.int m0), .val (.double s0), .second, .val (.int jC), .val (.double xC), .second, .val (.int mz), .val (.double sl), .second, .val (.int nq), .unset, .unset, .unset, .unset] [(.double xC)])) := by
        refine q0.trans ?_
        show Steps p.tables e below (T218.setTop (mkF m 359 #[.val (.int p1), .val (.int p2), .val (.int p3), .val (.int p4), .val (.int p5), .val (.int rA), .val (.int rB), .val (.int rC), .val (.int rU), .val (.int q), .val (.double (FP.i2d sa)), .second, .val (.double (FP.i2d sb)), .second, .val (.double (FP.i2d sc)), .second, .val (.double (FP.i2d ia)), .second, .val (.double (FP.i2d ib)), .second, .val (.double (FP.i2d ic)), .second, .val (.double (FP.i2d ie)), .second, .val (.ref po), .val (.double gg), .second, .val (.double ppa), .second, .val (.double ppb), .second, .val (.double ppc), .second, .val (.int m0), .val (.double s0), .second, .val (.int jC), .val (.double xC), .second, .val (.int mz), .val (.double sl), .second, .val (.int nq), .unset, .unset, .unset, .unset] [(.int q)])) _
        refine XS.ifYes X218.here hx rfl (pc0 := 359) (pc' := 367) rfl (hb hby at_359) rfl ((if0 _ _).trans (feq hf268).2) (by decide) (by decide) ?_
        show Steps p.tables e below (T218.setTop (mkF m 367 #[.val (.int p1), .val (.int p2), .val (.int p3), .val (.int p4), .val (.int p5), .val (.int rA), .val (.int rB), .val (.int rC), .val (.int rU), .val (.int q), .val (.double (FP.i2d sa)), .second, .val (.double (FP.i2d sb)), .second, .val (.double (FP.i2d sc)), .second, .val (.double (FP.i2d ia)), .second, .val (.double (FP.i2d ib)), .second, .val (.double (FP.i2d ic)), .second, .val (.double (FP.i2d ie)), .second, .val (.ref po), .val (.double gg), .second, .val (.double ppa), .second, .val (.double ppb), .second, .val (.double ppc), .second, .val (.int m0), .val (.double s0), .second, .val (.int jC), .val (.double xC), .second, .val (.int mz), .val (.double sl), .second, .val (.int nq), .unset, .unset, .unset, .unset] [])) _
        refine XS.dload X218.here hx rfl (hb hby at_367) rfl ?_
        exact Steps.refl _
      exact r270
  have r272 : Steps p.tables e below S0 (T218.setTop (mkF m 371 #[.val (.int p1), .val (.int p2), .val (.int p3), .val (.int p4), .val (.int p5), .val (.int rA), .val (.int rB), .val (.int rC), .val (.int rU), .val (.int q), .val (.double (FP.i2d sa)), .second, .val (.double (FP.i2d sb)), .second, .val (.double (FP.i2d sc)), .second, .val (.double (FP.i2d ia)), .second, .val (.double (FP.i2d ib)), .second, .val (.double (FP.i2d ic)), .second, .val (.double (FP.i2d ie)), .second, .val (.ref po), .val (.double gg), .second, .val (.double ppa), .second, .val (.double ppb), .second, .val (.double ppc), .second, .val (.int m0), .val (.double s0), .second, .val (.int jC), .val (.double xC), .second, .val (.int mz), .val (.double sl), .second, .val (.int nq), .val (.double (if q = (0 : Int32) then s0 else xC)), .second, .unset, .unset] [])) := by
    refine r271.trans ?_
    show Steps p.tables e below (T218.setTop (mkF m 369 #[.val (.int p1), .val (.int p2), .val (.int p3), .val (.int p4), .val (.int p5), .val (.int rA), .val (.int rB), .val (.int rC), .val (.int rU), .val (.int q), .val (.double (FP.i2d sa)), .second, .val (.double (FP.i2d sb)), .second, .val (.double (FP.i2d sc)), .second, .val (.double (FP.i2d ia)), .second, .val (.double (FP.i2d ib)), .second, .val (.double (FP.i2d ic)), .second, .val (.double (FP.i2d ie)), .second, .val (.ref po), .val (.double gg), .second, .val (.double ppa), .second, .val (.double ppb), .second, .val (.double ppc), .second, .val (.int m0), .val (.double s0), .second, .val (.int jC), .val (.double xC), .second, .val (.int mz), .val (.double sl), .second, .val (.int nq), .unset, .unset, .unset, .unset] [(.double (if q = (0 : Int32) then s0 else xC))])) _
    refine XS.dstore X218.here hx rfl (hb hby at_369) rfl (l' := #[.val (.int p1), .val (.int p2), .val (.int p3), .val (.int p4), .val (.int p5), .val (.int rA), .val (.int rB), .val (.int rC), .val (.int rU), .val (.int q), .val (.double (FP.i2d sa)), .second, .val (.double (FP.i2d sb)), .second, .val (.double (FP.i2d sc)), .second, .val (.double (FP.i2d ia)), .second, .val (.double (FP.i2d ib)), .second, .val (.double (FP.i2d ic)), .second, .val (.double (FP.i2d ie)), .second, .val (.ref po), .val (.double gg), .second, .val (.double ppa), .second, .val (.double ppb), .second, .val (.double ppc), .second, .val (.int m0), .val (.double s0), .second, .val (.int jC), .val (.double xC), .second, .val (.int mz), .val (.double sl), .second, .val (.int nq), .val (.double (if q = (0 : Int32) then s0 else xC)), .second, .unset, .unset]) rfl ?_
    exact Steps.refl _
  obtain ⟨sq, hsq⟩ : ∃ z, z = (if q = (0 : Int32) then s0 else xC) := ⟨_, rfl⟩
  have r273 : Steps p.tables e below S0 (T218.setTop (mkF m 371 #[.val (.int p1), .val (.int p2), .val (.int p3), .val (.int p4), .val (.int p5), .val (.int rA), .val (.int rB), .val (.int rC), .val (.int rU), .val (.int q), .val (.double (FP.i2d sa)), .second, .val (.double (FP.i2d sb)), .second, .val (.double (FP.i2d sc)), .second, .val (.double (FP.i2d ia)), .second, .val (.double (FP.i2d ib)), .second, .val (.double (FP.i2d ic)), .second, .val (.double (FP.i2d ie)), .second, .val (.ref po), .val (.double gg), .second, .val (.double ppa), .second, .val (.double ppb), .second, .val (.double ppc), .second, .val (.int m0), .val (.double s0), .second, .val (.int jC), .val (.double xC), .second, .val (.int mz), .val (.double sl), .second, .val (.int nq), .val (.double sq), .second, .unset, .unset] [])) := by rw [hsq]; exact r272
  have ysq : Dy (SD4 q.toNatClampNeg) 3 sq := by
    rw [hsq]
    rcases hq2 with z | z
    · rw [if_pos z, z]; exact ys0.cast sd0.symm rfl
    · rw [if_neg (by rw [z]; decide), z]; exact yxC.cast sd1.symm rfl
  have tnq : nq.toInt = CD4 q.toNatClampNeg := by
    rw [hnq]
    rcases hq2 with z | z
    · rw [if_pos z, z]; exact tm0.trans cd0.symm
    · rw [if_neg (by rw [z]; decide), z]; exact tjC.trans cd1.symm
  have z0 : (0 : Int32).toInt = 0 := by decide
  have r274 : Steps p.tables e below S0 (T218.setTop (mkF m 373 #[.val (.int p1), .val (.int p2), .val (.int p3), .val (.int p4), .val (.int p5), .val (.int rA), .val (.int rB), .val (.int rC), .val (.int rU), .val (.int q), .val (.double (FP.i2d sa)), .second, .val (.double (FP.i2d sb)), .second, .val (.double (FP.i2d sc)), .second, .val (.double (FP.i2d ia)), .second, .val (.double (FP.i2d ib)), .second, .val (.double (FP.i2d ic)), .second, .val (.double (FP.i2d ie)), .second, .val (.ref po), .val (.double gg), .second, .val (.double ppa), .second, .val (.double ppb), .second, .val (.double ppc), .second, .val (.int m0), .val (.double s0), .second, .val (.int jC), .val (.double xC), .second, .val (.int mz), .val (.double sl), .second, .val (.int nq), .val (.double sq), .second, .unset, .unset] [(.int nq)])) := by
    refine r273.trans ?_
    show Steps p.tables e below (T218.setTop (mkF m 371 #[.val (.int p1), .val (.int p2), .val (.int p3), .val (.int p4), .val (.int p5), .val (.int rA), .val (.int rB), .val (.int rC), .val (.int rU), .val (.int q), .val (.double (FP.i2d sa)), .second, .val (.double (FP.i2d sb)), .second, .val (.double (FP.i2d sc)), .second, .val (.double (FP.i2d ia)), .second, .val (.double (FP.i2d ib)), .second, .val (.double (FP.i2d ic)), .second, .val (.double (FP.i2d ie)), .second, .val (.ref po), .val (.double gg), .second, .val (.double ppa), .second, .val (.double ppb), .second, .val (.double ppc), .second, .val (.int m0), .val (.double s0), .second, .val (.int jC), .val (.double xC), .second, .val (.int mz), .val (.double sl), .second, .val (.int nq), .val (.double sq), .second, .unset, .unset] [])) _
    refine XS.iload X218.here hx rfl (hb hby at_371) rfl ?_
    exact Steps.refl _
  by_cases h1 : (0 : Int32) < nq
  · skip
    have h1' : 0 < nq.toInt := by have := Int32.lt_iff_toInt_lt.mp h1; omega
    obtain ⟨sm, ct, hgg, ysm, hct⟩ := gd1 (by omega)
    obtain ⟨ex, hex⟩ : ∃ z, FP.ddiv sq (FP.i2d nq) = z := ⟨_, rfl⟩
    have r275 : Steps p.tables e below S0 (T218.setTop (mkF m 419 #[.val (.int p1), .val (.int p2), .val (.int p3), .val (.int p4), .val (.int p5), .val (.int rA), .val (.int rB), .val (.int rC), .val (.int rU), .val (.int q), .val (.double (FP.i2d sa)), .second, .val (.double (FP.i2d sb)), .second, .val (.double (FP.i2d sc)), .second, .val (.double (FP.i2d ia)), .second, .val (.double (FP.i2d ib)), .second, .val (.double (FP.i2d ic)), .second, .val (.double (FP.i2d ie)), .second, .val (.ref po), .val (.double gg), .second, .val (.double ppa), .second, .val (.double ppb), .second, .val (.double ppc), .second, .val (.int m0), .val (.double s0), .second, .val (.int jC), .val (.double xC), .second, .val (.int mz), .val (.double sl), .second, .val (.int nq), .val (.double sq), .second, .val (.double ex), .second] [(.int (1 : Int32))])) := by
      refine r274.trans ?_
      show Steps p.tables e below (T218.setTop (mkF m 373 #[.val (.int p1), .val (.int p2), .val (.int p3), .val (.int p4), .val (.int p5), .val (.int rA), .val (.int rB), .val (.int rC), .val (.int rU), .val (.int q), .val (.double (FP.i2d sa)), .second, .val (.double (FP.i2d sb)), .second, .val (.double (FP.i2d sc)), .second, .val (.double (FP.i2d ia)), .second, .val (.double (FP.i2d ib)), .second, .val (.double (FP.i2d ic)), .second, .val (.double (FP.i2d ie)), .second, .val (.ref po), .val (.double gg), .second, .val (.double ppa), .second, .val (.double ppb), .second, .val (.double ppc), .second, .val (.int m0), .val (.double s0), .second, .val (.int jC), .val (.double xC), .second, .val (.int mz), .val (.double sl), .second, .val (.int nq), .val (.double sq), .second, .unset, .unset] [(.int nq)])) _
      refine XS.ifNo X218.here hx rfl (hb hby at_373) rfl ((if0 _ _).trans (tlt h1).2.2.2) ?_
      show Steps p.tables e below (T218.setTop (mkF m 376 #[.val (.int p1), .val (.int p2), .val (.int p3), .val (.int p4), .val (.int p5), .val (.int rA), .val (.int rB), .val (.int rC), .val (.int rU), .val (.int q), .val (.double (FP.i2d sa)), .second, .val (.double (FP.i2d sb)), .second, .val (.double (FP.i2d sc)), .second, .val (.double (FP.i2d ia)), .second, .val (.double (FP.i2d ib)), .second, .val (.double (FP.i2d ic)), .second, .val (.double (FP.i2d ie)), .second, .val (.ref po), .val (.double gg), .second, .val (.double ppa), .second, .val (.double ppb), .second, .val (.double ppc), .second, .val (.int m0), .val (.double s0), .second, .val (.int jC), .val (.double xC), .second, .val (.int mz), .val (.double sl), .second, .val (.int nq), .val (.double sq), .second, .unset, .unset] [])) _
      refine XS.dload X218.here hx rfl (hb hby at_376) rfl ?_
      show Steps p.tables e below (T218.setTop (mkF m 378 #[.val (.int p1), .val (.int p2), .val (.int p3), .val (.int p4), .val (.int p5), .val (.int rA), .val (.int rB), .val (.int rC), .val (.int rU), .val (.int q), .val (.double (FP.i2d sa)), .second, .val (.double (FP.i2d sb)), .second, .val (.double (FP.i2d sc)), .second, .val (.double (FP.i2d ia)), .second, .val (.double (FP.i2d ib)), .second, .val (.double (FP.i2d ic)), .second, .val (.double (FP.i2d ie)), .second, .val (.ref po), .val (.double gg), .second, .val (.double ppa), .second, .val (.double ppb), .second, .val (.double ppc), .second, .val (.int m0), .val (.double s0), .second, .val (.int jC), .val (.double xC), .second, .val (.int mz), .val (.double sl), .second, .val (.int nq), .val (.double sq), .second, .unset, .unset] [(.double sq)])) _
      refine XS.iload X218.here hx rfl (hb hby at_378) rfl ?_
      show Steps p.tables e below (T218.setTop (mkF m 380 #[.val (.int p1), .val (.int p2), .val (.int p3), .val (.int p4), .val (.int p5), .val (.int rA), .val (.int rB), .val (.int rC), .val (.int rU), .val (.int q), .val (.double (FP.i2d sa)), .second, .val (.double (FP.i2d sb)), .second, .val (.double (FP.i2d sc)), .second, .val (.double (FP.i2d ia)), .second, .val (.double (FP.i2d ib)), .second, .val (.double (FP.i2d ic)), .second, .val (.double (FP.i2d ie)), .second, .val (.ref po), .val (.double gg), .second, .val (.double ppa), .second, .val (.double ppb), .second, .val (.double ppc), .second, .val (.int m0), .val (.double s0), .second, .val (.int jC), .val (.double xC), .second, .val (.int mz), .val (.double sl), .second, .val (.int nq), .val (.double sq), .second, .unset, .unset] [(.int nq), (.double sq)])) _
      refine XS.i2dS X218.here hx rfl (hb hby at_380) rfl rfl ?_
      show Steps p.tables e below (T218.setTop (mkF m 381 #[.val (.int p1), .val (.int p2), .val (.int p3), .val (.int p4), .val (.int p5), .val (.int rA), .val (.int rB), .val (.int rC), .val (.int rU), .val (.int q), .val (.double (FP.i2d sa)), .second, .val (.double (FP.i2d sb)), .second, .val (.double (FP.i2d sc)), .second, .val (.double (FP.i2d ia)), .second, .val (.double (FP.i2d ib)), .second, .val (.double (FP.i2d ic)), .second, .val (.double (FP.i2d ie)), .second, .val (.ref po), .val (.double gg), .second, .val (.double ppa), .second, .val (.double ppb), .second, .val (.double ppc), .second, .val (.int m0), .val (.double s0), .second, .val (.int jC), .val (.double xC), .second, .val (.int mz), .val (.double sl), .second, .val (.int nq), .val (.double sq), .second, .unset, .unset] [(.double (FP.i2d nq)), (.double sq)])) _
      refine XS.ddivS X218.here hx rfl (hb hby at_381) rfl (div_noNaN ysq (Dy.i2d nq) h1') hex ?_
      show Steps p.tables e below (T218.setTop (mkF m 382 #[.val (.int p1), .val (.int p2), .val (.int p3), .val (.int p4), .val (.int p5), .val (.int rA), .val (.int rB), .val (.int rC), .val (.int rU), .val (.int q), .val (.double (FP.i2d sa)), .second, .val (.double (FP.i2d sb)), .second, .val (.double (FP.i2d sc)), .second, .val (.double (FP.i2d ia)), .second, .val (.double (FP.i2d ib)), .second, .val (.double (FP.i2d ic)), .second, .val (.double (FP.i2d ie)), .second, .val (.ref po), .val (.double gg), .second, .val (.double ppa), .second, .val (.double ppb), .second, .val (.double ppc), .second, .val (.int m0), .val (.double s0), .second, .val (.int jC), .val (.double xC), .second, .val (.int mz), .val (.double sl), .second, .val (.int nq), .val (.double sq), .second, .unset, .unset] [(.double ex)])) _
      refine XS.dstore X218.here hx rfl (hb hby at_382) rfl (l' := #[.val (.int p1), .val (.int p2), .val (.int p3), .val (.int p4), .val (.int p5), .val (.int rA), .val (.int rB), .val (.int rC), .val (.int rU), .val (.int q), .val (.double (FP.i2d sa)), .second, .val (.double (FP.i2d sb)), .second, .val (.double (FP.i2d sc)), .second, .val (.double (FP.i2d ia)), .second, .val (.double (FP.i2d ib)), .second, .val (.double (FP.i2d ic)), .second, .val (.double (FP.i2d ie)), .second, .val (.ref po), .val (.double gg), .second, .val (.double ppa), .second, .val (.double ppb), .second, .val (.double ppc), .second, .val (.int m0), .val (.double s0), .second, .val (.int jC), .val (.double xC), .second, .val (.int mz), .val (.double sl), .second, .val (.int nq), .val (.double sq), .second, .val (.double ex), .second]) rfl ?_
      show Steps p.tables e below (T218.setTop (mkF m 384 #[.val (.int p1), .val (.int p2), .val (.int p3), .val (.int p4), .val (.int p5), .val (.int rA), .val (.int rB), .val (.int rC), .val (.int rU), .val (.int q), .val (.double (FP.i2d sa)), .second, .val (.double (FP.i2d sb)), .second, .val (.double (FP.i2d sc)), .second, .val (.double (FP.i2d ia)), .second, .val (.double (FP.i2d ib)), .second, .val (.double (FP.i2d ic)), .second, .val (.double (FP.i2d ie)), .second, .val (.ref po), .val (.double gg), .second, .val (.double ppa), .second, .val (.double ppb), .second, .val (.double ppc), .second, .val (.int m0), .val (.double s0), .second, .val (.int jC), .val (.double xC), .second, .val (.int mz), .val (.double sl), .second, .val (.int nq), .val (.double sq), .second, .val (.double ex), .second] [])) _
      refine XS.goto X218.here hx rfl (pc0 := 384) (pc' := 406) rfl (hb hby at_384) (by decide) (by decide) ?_
      show Steps p.tables e below (T218.setTop (mkF m 406 #[.val (.int p1), .val (.int p2), .val (.int p3), .val (.int p4), .val (.int p5), .val (.int rA), .val (.int rB), .val (.int rC), .val (.int rU), .val (.int q), .val (.double (FP.i2d sa)), .second, .val (.double (FP.i2d sb)), .second, .val (.double (FP.i2d sc)), .second, .val (.double (FP.i2d ia)), .second, .val (.double (FP.i2d ib)), .second, .val (.double (FP.i2d ic)), .second, .val (.double (FP.i2d ie)), .second, .val (.ref po), .val (.double gg), .second, .val (.double ppa), .second, .val (.double ppb), .second, .val (.double ppc), .second, .val (.int m0), .val (.double s0), .second, .val (.int jC), .val (.double xC), .second, .val (.int mz), .val (.double sl), .second, .val (.int nq), .val (.double sq), .second, .val (.double ex), .second] [])) _
      refine XS.dload X218.here hx rfl (hb hby at_406) rfl ?_
      show Steps p.tables e below (T218.setTop (mkF m 408 #[.val (.int p1), .val (.int p2), .val (.int p3), .val (.int p4), .val (.int p5), .val (.int rA), .val (.int rB), .val (.int rC), .val (.int rU), .val (.int q), .val (.double (FP.i2d sa)), .second, .val (.double (FP.i2d sb)), .second, .val (.double (FP.i2d sc)), .second, .val (.double (FP.i2d ia)), .second, .val (.double (FP.i2d ib)), .second, .val (.double (FP.i2d ic)), .second, .val (.double (FP.i2d ie)), .second, .val (.ref po), .val (.double gg), .second, .val (.double ppa), .second, .val (.double ppb), .second, .val (.double ppc), .second, .val (.int m0), .val (.double s0), .second, .val (.int jC), .val (.double xC), .second, .val (.int mz), .val (.double sl), .second, .val (.int nq), .val (.double sq), .second, .val (.double ex), .second] [(.double gg)])) _
      refine XS.dload X218.here hx rfl (hb hby at_408) rfl ?_
      show Steps p.tables e below (T218.setTop (mkF m 410 #[.val (.int p1), .val (.int p2), .val (.int p3), .val (.int p4), .val (.int p5), .val (.int rA), .val (.int rB), .val (.int rC), .val (.int rU), .val (.int q), .val (.double (FP.i2d sa)), .second, .val (.double (FP.i2d sb)), .second, .val (.double (FP.i2d sc)), .second, .val (.double (FP.i2d ia)), .second, .val (.double (FP.i2d ib)), .second, .val (.double (FP.i2d ic)), .second, .val (.double (FP.i2d ie)), .second, .val (.ref po), .val (.double gg), .second, .val (.double ppa), .second, .val (.double ppb), .second, .val (.double ppc), .second, .val (.int m0), .val (.double s0), .second, .val (.int jC), .val (.double xC), .second, .val (.int mz), .val (.double sl), .second, .val (.int nq), .val (.double sq), .second, .val (.double ex), .second] [(.double ex), (.double gg)])) _
      refine XS.dcmpS X218.here hx rfl (hb hby at_410) rfl (show cmpValue (FP.dcmp gg ex) .l = (0 : Int32) from (by rw [hgg, ← hex, div_cmp_eq ysm (Dy.i2d ct) (by omega) ysq (Dy.i2d nq) (by omega) (by decide) (by decide) (by rw [hct, tnq])]; rfl)) ?_
      show Steps p.tables e below (T218.setTop (mkF m 411 #[.val (.int p1), .val (.int p2), .val (.int p3), .val (.int p4), .val (.int p5), .val (.int rA), .val (.int rB), .val (.int rC), .val (.int rU), .val (.int q), .val (.double (FP.i2d sa)), .second, .val (.double (FP.i2d sb)), .second, .val (.double (FP.i2d sc)), .second, .val (.double (FP.i2d ia)), .second, .val (.double (FP.i2d ib)), .second, .val (.double (FP.i2d ic)), .second, .val (.double (FP.i2d ie)), .second, .val (.ref po), .val (.double gg), .second, .val (.double ppa), .second, .val (.double ppb), .second, .val (.double ppc), .second, .val (.int m0), .val (.double s0), .second, .val (.int jC), .val (.double xC), .second, .val (.int mz), .val (.double sl), .second, .val (.int nq), .val (.double sq), .second, .val (.double ex), .second] [(.int (0 : Int32))])) _
      refine XS.ifNo X218.here hx rfl (hb hby at_411) rfl ((if0 _ _).trans (teq rfl).2) ?_
      show Steps p.tables e below (T218.setTop (mkF m 414 #[.val (.int p1), .val (.int p2), .val (.int p3), .val (.int p4), .val (.int p5), .val (.int rA), .val (.int rB), .val (.int rC), .val (.int rU), .val (.int q), .val (.double (FP.i2d sa)), .second, .val (.double (FP.i2d sb)), .second, .val (.double (FP.i2d sc)), .second, .val (.double (FP.i2d ia)), .second, .val (.double (FP.i2d ib)), .second, .val (.double (FP.i2d ic)), .second, .val (.double (FP.i2d ie)), .second, .val (.ref po), .val (.double gg), .second, .val (.double ppa), .second, .val (.double ppb), .second, .val (.double ppc), .second, .val (.int m0), .val (.double s0), .second, .val (.int jC), .val (.double xC), .second, .val (.int mz), .val (.double sl), .second, .val (.int nq), .val (.double sq), .second, .val (.double ex), .second] [])) _
      refine XS.iconst X218.here hx rfl (hb hby at_414) ?_
      show Steps p.tables e below (T218.setTop (mkF m 415 #[.val (.int p1), .val (.int p2), .val (.int p3), .val (.int p4), .val (.int p5), .val (.int rA), .val (.int rB), .val (.int rC), .val (.int rU), .val (.int q), .val (.double (FP.i2d sa)), .second, .val (.double (FP.i2d sb)), .second, .val (.double (FP.i2d sc)), .second, .val (.double (FP.i2d ia)), .second, .val (.double (FP.i2d ib)), .second, .val (.double (FP.i2d ic)), .second, .val (.double (FP.i2d ie)), .second, .val (.ref po), .val (.double gg), .second, .val (.double ppa), .second, .val (.double ppb), .second, .val (.double ppc), .second, .val (.int m0), .val (.double s0), .second, .val (.int jC), .val (.double xC), .second, .val (.int mz), .val (.double sl), .second, .val (.int nq), .val (.double sq), .second, .val (.double ex), .second] [(.int (1 : Int32))])) _
      refine XS.goto X218.here hx rfl (pc0 := 415) (pc' := 419) rfl (hb hby at_415) (by decide) (by decide) ?_
      exact Steps.refl _
    obtain ⟨fs, hr, hrun, hended, hW, hsame⟩ := X218.leave (v := some (.int (1 : Int32))) (fun h => by rw [Bd.returns] at h; cases h)
    refine ⟨_, _, pre0 _ ?_, hrun, hended, _, _, rfl, ?_, ⟨_, rfl⟩, hW, hsame.mono (by decide) (by decide)⟩
    · rw [← hS0]
      refine r275.trans ?_
      show Steps p.tables e below (T218.setTop (mkF m 419 #[.val (.int p1), .val (.int p2), .val (.int p3), .val (.int p4), .val (.int p5), .val (.int rA), .val (.int rB), .val (.int rC), .val (.int rU), .val (.int q), .val (.double (FP.i2d sa)), .second, .val (.double (FP.i2d sb)), .second, .val (.double (FP.i2d sc)), .second, .val (.double (FP.i2d ia)), .second, .val (.double (FP.i2d ib)), .second, .val (.double (FP.i2d ic)), .second, .val (.double (FP.i2d ie)), .second, .val (.ref po), .val (.double gg), .second, .val (.double ppa), .second, .val (.double ppb), .second, .val (.double ppc), .second, .val (.int m0), .val (.double s0), .second, .val (.int jC), .val (.double xC), .second, .val (.int mz), .val (.double sl), .second, .val (.int nq), .val (.double sq), .second, .val (.double ex), .second] [(.int (1 : Int32))])) _
      exact retB X218 hx Bd.returns (by first | exact Or.inr rfl | exact Or.inl rfl | (split <;> simp)) (hb hby at_419) hr
    · exact ⟨rfl, N218⟩
  · skip
    have h1' : ¬ 0 < nq.toInt := fun z => h1 (Int32.lt_iff_toInt_lt.mpr (by omega))
    have r276 : Steps p.tables e below S0 (T218.setTop (mkF m 389 #[.val (.int p1), .val (.int p2), .val (.int p3), .val (.int p4), .val (.int p5), .val (.int rA), .val (.int rB), .val (.int rC), .val (.int rU), .val (.int q), .val (.double (FP.i2d sa)), .second, .val (.double (FP.i2d sb)), .second, .val (.double (FP.i2d sc)), .second, .val (.double (FP.i2d ia)), .second, .val (.double (FP.i2d ib)), .second, .val (.double (FP.i2d ic)), .second, .val (.double (FP.i2d ie)), .second, .val (.ref po), .val (.double gg), .second, .val (.double ppa), .second, .val (.double ppb), .second, .val (.double ppc), .second, .val (.int m0), .val (.double s0), .second, .val (.int jC), .val (.double xC), .second, .val (.int mz), .val (.double sl), .second, .val (.int nq), .val (.double sq), .second, .unset, .unset] [(.int mz)])) := by
      refine r274.trans ?_
      show Steps p.tables e below (T218.setTop (mkF m 373 #[.val (.int p1), .val (.int p2), .val (.int p3), .val (.int p4), .val (.int p5), .val (.int rA), .val (.int rB), .val (.int rC), .val (.int rU), .val (.int q), .val (.double (FP.i2d sa)), .second, .val (.double (FP.i2d sb)), .second, .val (.double (FP.i2d sc)), .second, .val (.double (FP.i2d ia)), .second, .val (.double (FP.i2d ib)), .second, .val (.double (FP.i2d ic)), .second, .val (.double (FP.i2d ie)), .second, .val (.ref po), .val (.double gg), .second, .val (.double ppa), .second, .val (.double ppb), .second, .val (.double ppc), .second, .val (.int m0), .val (.double s0), .second, .val (.int jC), .val (.double xC), .second, .val (.int mz), .val (.double sl), .second, .val (.int nq), .val (.double sq), .second, .unset, .unset] [(.int nq)])) _
      refine XS.ifYes X218.here hx rfl (pc0 := 373) (pc' := 387) rfl (hb hby at_373) rfl ((if0 _ _).trans (flt h1).2.2.2) (by decide) (by decide) ?_
      show Steps p.tables e below (T218.setTop (mkF m 387 #[.val (.int p1), .val (.int p2), .val (.int p3), .val (.int p4), .val (.int p5), .val (.int rA), .val (.int rB), .val (.int rC), .val (.int rU), .val (.int q), .val (.double (FP.i2d sa)), .second, .val (.double (FP.i2d sb)), .second, .val (.double (FP.i2d sc)), .second, .val (.double (FP.i2d ia)), .second, .val (.double (FP.i2d ib)), .second, .val (.double (FP.i2d ic)), .second, .val (.double (FP.i2d ie)), .second, .val (.ref po), .val (.double gg), .second, .val (.double ppa), .second, .val (.double ppb), .second, .val (.double ppc), .second, .val (.int m0), .val (.double s0), .second, .val (.int jC), .val (.double xC), .second, .val (.int mz), .val (.double sl), .second, .val (.int nq), .val (.double sq), .second, .unset, .unset] [])) _
      refine XS.iload X218.here hx rfl (hb hby at_387) rfl ?_
      exact Steps.refl _
    by_cases h2 : (0 : Int32) < mz
    · skip
      have h2' : 0 < mz.toInt := by have := Int32.lt_iff_toInt_lt.mp h2; omega
      obtain ⟨sm, ct, hgg, ysm, hct⟩ := gd2 (by omega) (by omega)
      obtain ⟨ex, hex⟩ : ∃ z, FP.ddiv sl (FP.i2d mz) = z := ⟨_, rfl⟩
      have r277 : Steps p.tables e below S0 (T218.setTop (mkF m 419 #[.val (.int p1), .val (.int p2), .val (.int p3), .val (.int p4), .val (.int p5), .val (.int rA), .val (.int rB), .val (.int rC), .val (.int rU), .val (.int q), .val (.double (FP.i2d sa)), .second, .val (.double (FP.i2d sb)), .second, .val (.double (FP.i2d sc)), .second, .val (.double (FP.i2d ia)), .second, .val (.double (FP.i2d ib)), .second, .val (.double (FP.i2d ic)), .second, .val (.double (FP.i2d ie)), .second, .val (.ref po), .val (.double gg), .second, .val (.double ppa), .second, .val (.double ppb), .second, .val (.double ppc), .second, .val (.int m0), .val (.double s0), .second, .val (.int jC), .val (.double xC), .second, .val (.int mz), .val (.double sl), .second, .val (.int nq), .val (.double sq), .second, .val (.double ex), .second] [(.int (1 : Int32))])) := by
        refine r276.trans ?_
        show Steps p.tables e below (T218.setTop (mkF m 389 #[.val (.int p1), .val (.int p2), .val (.int p3), .val (.int p4), .val (.int p5), .val (.int rA), .val (.int rB), .val (.int rC), .val (.int rU), .val (.int q), .val (.double (FP.i2d sa)), .second, .val (.double (FP.i2d sb)), .second, .val (.double (FP.i2d sc)), .second, .val (.double (FP.i2d ia)), .second, .val (.double (FP.i2d ib)), .second, .val (.double (FP.i2d ic)), .second, .val (.double (FP.i2d ie)), .second, .val (.ref po), .val (.double gg), .second, .val (.double ppa), .second, .val (.double ppb), .second, .val (.double ppc), .second, .val (.int m0), .val (.double s0), .second, .val (.int jC), .val (.double xC), .second, .val (.int mz), .val (.double sl), .second, .val (.int nq), .val (.double sq), .second, .unset, .unset] [(.int mz)])) _
        refine XS.ifNo X218.here hx rfl (hb hby at_389) rfl ((if0 _ _).trans (tlt h2).2.2.2) ?_
        show Steps p.tables e below (T218.setTop (mkF m 392 #[.val (.int p1), .val (.int p2), .val (.int p3), .val (.int p4), .val (.int p5), .val (.int rA), .val (.int rB), .val (.int rC), .val (.int rU), .val (.int q), .val (.double (FP.i2d sa)), .second, .val (.double (FP.i2d sb)), .second, .val (.double (FP.i2d sc)), .second, .val (.double (FP.i2d ia)), .second, .val (.double (FP.i2d ib)), .second, .val (.double (FP.i2d ic)), .second, .val (.double (FP.i2d ie)), .second, .val (.ref po), .val (.double gg), .second, .val (.double ppa), .second, .val (.double ppb), .second, .val (.double ppc), .second, .val (.int m0), .val (.double s0), .second, .val (.int jC), .val (.double xC), .second, .val (.int mz), .val (.double sl), .second, .val (.int nq), .val (.double sq), .second, .unset, .unset] [])) _
        refine XS.dload X218.here hx rfl (hb hby at_392) rfl ?_
        show Steps p.tables e below (T218.setTop (mkF m 394 #[.val (.int p1), .val (.int p2), .val (.int p3), .val (.int p4), .val (.int p5), .val (.int rA), .val (.int rB), .val (.int rC), .val (.int rU), .val (.int q), .val (.double (FP.i2d sa)), .second, .val (.double (FP.i2d sb)), .second, .val (.double (FP.i2d sc)), .second, .val (.double (FP.i2d ia)), .second, .val (.double (FP.i2d ib)), .second, .val (.double (FP.i2d ic)), .second, .val (.double (FP.i2d ie)), .second, .val (.ref po), .val (.double gg), .second, .val (.double ppa), .second, .val (.double ppb), .second, .val (.double ppc), .second, .val (.int m0), .val (.double s0), .second, .val (.int jC), .val (.double xC), .second, .val (.int mz), .val (.double sl), .second, .val (.int nq), .val (.double sq), .second, .unset, .unset] [(.double sl)])) _
        refine XS.iload X218.here hx rfl (hb hby at_394) rfl ?_
        show Steps p.tables e below (T218.setTop (mkF m 396 #[.val (.int p1), .val (.int p2), .val (.int p3), .val (.int p4), .val (.int p5), .val (.int rA), .val (.int rB), .val (.int rC), .val (.int rU), .val (.int q), .val (.double (FP.i2d sa)), .second, .val (.double (FP.i2d sb)), .second, .val (.double (FP.i2d sc)), .second, .val (.double (FP.i2d ia)), .second, .val (.double (FP.i2d ib)), .second, .val (.double (FP.i2d ic)), .second, .val (.double (FP.i2d ie)), .second, .val (.ref po), .val (.double gg), .second, .val (.double ppa), .second, .val (.double ppb), .second, .val (.double ppc), .second, .val (.int m0), .val (.double s0), .second, .val (.int jC), .val (.double xC), .second, .val (.int mz), .val (.double sl), .second, .val (.int nq), .val (.double sq), .second, .unset, .unset] [(.int mz), (.double sl)])) _
        refine XS.i2dS X218.here hx rfl (hb hby at_396) rfl rfl ?_
        show Steps p.tables e below (T218.setTop (mkF m 397 #[.val (.int p1), .val (.int p2), .val (.int p3), .val (.int p4), .val (.int p5), .val (.int rA), .val (.int rB), .val (.int rC), .val (.int rU), .val (.int q), .val (.double (FP.i2d sa)), .second, .val (.double (FP.i2d sb)), .second, .val (.double (FP.i2d sc)), .second, .val (.double (FP.i2d ia)), .second, .val (.double (FP.i2d ib)), .second, .val (.double (FP.i2d ic)), .second, .val (.double (FP.i2d ie)), .second, .val (.ref po), .val (.double gg), .second, .val (.double ppa), .second, .val (.double ppb), .second, .val (.double ppc), .second, .val (.int m0), .val (.double s0), .second, .val (.int jC), .val (.double xC), .second, .val (.int mz), .val (.double sl), .second, .val (.int nq), .val (.double sq), .second, .unset, .unset] [(.double (FP.i2d mz)), (.double sl)])) _
        refine XS.ddivS X218.here hx rfl (hb hby at_397) rfl (div_noNaN ysl (Dy.i2d mz) h2') hex ?_
        show Steps p.tables e below (T218.setTop (mkF m 398 #[.val (.int p1), .val (.int p2), .val (.int p3), .val (.int p4), .val (.int p5), .val (.int rA), .val (.int rB), .val (.int rC), .val (.int rU), .val (.int q), .val (.double (FP.i2d sa)), .second, .val (.double (FP.i2d sb)), .second, .val (.double (FP.i2d sc)), .second, .val (.double (FP.i2d ia)), .second, .val (.double (FP.i2d ib)), .second, .val (.double (FP.i2d ic)), .second, .val (.double (FP.i2d ie)), .second, .val (.ref po), .val (.double gg), .second, .val (.double ppa), .second, .val (.double ppb), .second, .val (.double ppc), .second, .val (.int m0), .val (.double s0), .second, .val (.int jC), .val (.double xC), .second, .val (.int mz), .val (.double sl), .second, .val (.int nq), .val (.double sq), .second, .unset, .unset] [(.double ex)])) _
        refine XS.dstore X218.here hx rfl (hb hby at_398) rfl (l' := #[.val (.int p1), .val (.int p2), .val (.int p3), .val (.int p4), .val (.int p5), .val (.int rA), .val (.int rB), .val (.int rC), .val (.int rU), .val (.int q), .val (.double (FP.i2d sa)), .second, .val (.double (FP.i2d sb)), .second, .val (.double (FP.i2d sc)), .second, .val (.double (FP.i2d ia)), .second, .val (.double (FP.i2d ib)), .second, .val (.double (FP.i2d ic)), .second, .val (.double (FP.i2d ie)), .second, .val (.ref po), .val (.double gg), .second, .val (.double ppa), .second, .val (.double ppb), .second, .val (.double ppc), .second, .val (.int m0), .val (.double s0), .second, .val (.int jC), .val (.double xC), .second, .val (.int mz), .val (.double sl), .second, .val (.int nq), .val (.double sq), .second, .val (.double ex), .second]) rfl ?_
        show Steps p.tables e below (T218.setTop (mkF m 400 #[.val (.int p1), .val (.int p2), .val (.int p3), .val (.int p4), .val (.int p5), .val (.int rA), .val (.int rB), .val (.int rC), .val (.int rU), .val (.int q), .val (.double (FP.i2d sa)), .second, .val (.double (FP.i2d sb)), .second, .val (.double (FP.i2d sc)), .second, .val (.double (FP.i2d ia)), .second, .val (.double (FP.i2d ib)), .second, .val (.double (FP.i2d ic)), .second, .val (.double (FP.i2d ie)), .second, .val (.ref po), .val (.double gg), .second, .val (.double ppa), .second, .val (.double ppb), .second, .val (.double ppc), .second, .val (.int m0), .val (.double s0), .second, .val (.int jC), .val (.double xC), .second, .val (.int mz), .val (.double sl), .second, .val (.int nq), .val (.double sq), .second, .val (.double ex), .second] [])) _
        refine XS.goto X218.here hx rfl (pc0 := 400) (pc' := 406) rfl (hb hby at_400) (by decide) (by decide) ?_
        show Steps p.tables e below (T218.setTop (mkF m 406 #[.val (.int p1), .val (.int p2), .val (.int p3), .val (.int p4), .val (.int p5), .val (.int rA), .val (.int rB), .val (.int rC), .val (.int rU), .val (.int q), .val (.double (FP.i2d sa)), .second, .val (.double (FP.i2d sb)), .second, .val (.double (FP.i2d sc)), .second, .val (.double (FP.i2d ia)), .second, .val (.double (FP.i2d ib)), .second, .val (.double (FP.i2d ic)), .second, .val (.double (FP.i2d ie)), .second, .val (.ref po), .val (.double gg), .second, .val (.double ppa), .second, .val (.double ppb), .second, .val (.double ppc), .second, .val (.int m0), .val (.double s0), .second, .val (.int jC), .val (.double xC), .second, .val (.int mz), .val (.double sl), .second, .val (.int nq), .val (.double sq), .second, .val (.double ex), .second] [])) _
        refine XS.dload X218.here hx rfl (hb hby at_406) rfl ?_
        show Steps p.tables e below (T218.setTop (mkF m 408 #[.val (.int p1), .val (.int p2), .val (.int p3), .val (.int p4), .val (.int p5), .val (.int rA), .val (.int rB), .val (.int rC), .val (.int rU), .val (.int q), .val (.double (FP.i2d sa)), .second, .val (.double (FP.i2d sb)), .second, .val (.double (FP.i2d sc)), .second, .val (.double (FP.i2d ia)), .second, .val (.double (FP.i2d ib)), .second, .val (.double (FP.i2d ic)), .second, .val (.double (FP.i2d ie)), .second, .val (.ref po), .val (.double gg), .second, .val (.double ppa), .second, .val (.double ppb), .second, .val (.double ppc), .second, .val (.int m0), .val (.double s0), .second, .val (.int jC), .val (.double xC), .second, .val (.int mz), .val (.double sl), .second, .val (.int nq), .val (.double sq), .second, .val (.double ex), .second] [(.double gg)])) _
        refine XS.dload X218.here hx rfl (hb hby at_408) rfl ?_
        show Steps p.tables e below (T218.setTop (mkF m 410 #[.val (.int p1), .val (.int p2), .val (.int p3), .val (.int p4), .val (.int p5), .val (.int rA), .val (.int rB), .val (.int rC), .val (.int rU), .val (.int q), .val (.double (FP.i2d sa)), .second, .val (.double (FP.i2d sb)), .second, .val (.double (FP.i2d sc)), .second, .val (.double (FP.i2d ia)), .second, .val (.double (FP.i2d ib)), .second, .val (.double (FP.i2d ic)), .second, .val (.double (FP.i2d ie)), .second, .val (.ref po), .val (.double gg), .second, .val (.double ppa), .second, .val (.double ppb), .second, .val (.double ppc), .second, .val (.int m0), .val (.double s0), .second, .val (.int jC), .val (.double xC), .second, .val (.int mz), .val (.double sl), .second, .val (.int nq), .val (.double sq), .second, .val (.double ex), .second] [(.double ex), (.double gg)])) _
        refine XS.dcmpS X218.here hx rfl (hb hby at_410) rfl (show cmpValue (FP.dcmp gg ex) .l = (0 : Int32) from (by rw [hgg, ← hex, div_cmp_eq ysm (Dy.l2d (by omega)) (by omega) ysl (Dy.i2d mz) (by omega) (by decide) (by decide) (by rw [hct, tmz, ad, nd])]; rfl)) ?_
        show Steps p.tables e below (T218.setTop (mkF m 411 #[.val (.int p1), .val (.int p2), .val (.int p3), .val (.int p4), .val (.int p5), .val (.int rA), .val (.int rB), .val (.int rC), .val (.int rU), .val (.int q), .val (.double (FP.i2d sa)), .second, .val (.double (FP.i2d sb)), .second, .val (.double (FP.i2d sc)), .second, .val (.double (FP.i2d ia)), .second, .val (.double (FP.i2d ib)), .second, .val (.double (FP.i2d ic)), .second, .val (.double (FP.i2d ie)), .second, .val (.ref po), .val (.double gg), .second, .val (.double ppa), .second, .val (.double ppb), .second, .val (.double ppc), .second, .val (.int m0), .val (.double s0), .second, .val (.int jC), .val (.double xC), .second, .val (.int mz), .val (.double sl), .second, .val (.int nq), .val (.double sq), .second, .val (.double ex), .second] [(.int (0 : Int32))])) _
        refine XS.ifNo X218.here hx rfl (hb hby at_411) rfl ((if0 _ _).trans (teq rfl).2) ?_
        show Steps p.tables e below (T218.setTop (mkF m 414 #[.val (.int p1), .val (.int p2), .val (.int p3), .val (.int p4), .val (.int p5), .val (.int rA), .val (.int rB), .val (.int rC), .val (.int rU), .val (.int q), .val (.double (FP.i2d sa)), .second, .val (.double (FP.i2d sb)), .second, .val (.double (FP.i2d sc)), .second, .val (.double (FP.i2d ia)), .second, .val (.double (FP.i2d ib)), .second, .val (.double (FP.i2d ic)), .second, .val (.double (FP.i2d ie)), .second, .val (.ref po), .val (.double gg), .second, .val (.double ppa), .second, .val (.double ppb), .second, .val (.double ppc), .second, .val (.int m0), .val (.double s0), .second, .val (.int jC), .val (.double xC), .second, .val (.int mz), .val (.double sl), .second, .val (.int nq), .val (.double sq), .second, .val (.double ex), .second] [])) _
        refine XS.iconst X218.here hx rfl (hb hby at_414) ?_
        show Steps p.tables e below (T218.setTop (mkF m 415 #[.val (.int p1), .val (.int p2), .val (.int p3), .val (.int p4), .val (.int p5), .val (.int rA), .val (.int rB), .val (.int rC), .val (.int rU), .val (.int q), .val (.double (FP.i2d sa)), .second, .val (.double (FP.i2d sb)), .second, .val (.double (FP.i2d sc)), .second, .val (.double (FP.i2d ia)), .second, .val (.double (FP.i2d ib)), .second, .val (.double (FP.i2d ic)), .second, .val (.double (FP.i2d ie)), .second, .val (.ref po), .val (.double gg), .second, .val (.double ppa), .second, .val (.double ppb), .second, .val (.double ppc), .second, .val (.int m0), .val (.double s0), .second, .val (.int jC), .val (.double xC), .second, .val (.int mz), .val (.double sl), .second, .val (.int nq), .val (.double sq), .second, .val (.double ex), .second] [(.int (1 : Int32))])) _
        refine XS.goto X218.here hx rfl (pc0 := 415) (pc' := 419) rfl (hb hby at_415) (by decide) (by decide) ?_
        exact Steps.refl _
      obtain ⟨fs, hr, hrun, hended, hW, hsame⟩ := X218.leave (v := some (.int (1 : Int32))) (fun h => by rw [Bd.returns] at h; cases h)
      refine ⟨_, _, pre0 _ ?_, hrun, hended, _, _, rfl, ?_, ⟨_, rfl⟩, hW, hsame.mono (by decide) (by decide)⟩
      · rw [← hS0]
        refine r277.trans ?_
        show Steps p.tables e below (T218.setTop (mkF m 419 #[.val (.int p1), .val (.int p2), .val (.int p3), .val (.int p4), .val (.int p5), .val (.int rA), .val (.int rB), .val (.int rC), .val (.int rU), .val (.int q), .val (.double (FP.i2d sa)), .second, .val (.double (FP.i2d sb)), .second, .val (.double (FP.i2d sc)), .second, .val (.double (FP.i2d ia)), .second, .val (.double (FP.i2d ib)), .second, .val (.double (FP.i2d ic)), .second, .val (.double (FP.i2d ie)), .second, .val (.ref po), .val (.double gg), .second, .val (.double ppa), .second, .val (.double ppb), .second, .val (.double ppc), .second, .val (.int m0), .val (.double s0), .second, .val (.int jC), .val (.double xC), .second, .val (.int mz), .val (.double sl), .second, .val (.int nq), .val (.double sq), .second, .val (.double ex), .second] [(.int (1 : Int32))])) _
        exact retB X218 hx Bd.returns (by first | exact Or.inr rfl | exact Or.inl rfl | (split <;> simp)) (hb hby at_419) hr
      · exact ⟨rfl, N218⟩
    · skip
      have h2' : ¬ 0 < mz.toInt := fun z => h2 (Int32.lt_iff_toInt_lt.mpr (by omega))
      have hgg := gd3 (by omega) (by omega)
      have r278 : Steps p.tables e below S0 (T218.setTop (mkF m 419 #[.val (.int p1), .val (.int p2), .val (.int p3), .val (.int p4), .val (.int p5), .val (.int rA), .val (.int rB), .val (.int rC), .val (.int rU), .val (.int q), .val (.double (FP.i2d sa)), .second, .val (.double (FP.i2d sb)), .second, .val (.double (FP.i2d sc)), .second, .val (.double (FP.i2d ia)), .second, .val (.double (FP.i2d ib)), .second, .val (.double (FP.i2d ic)), .second, .val (.double (FP.i2d ie)), .second, .val (.ref po), .val (.double gg), .second, .val (.double ppa), .second, .val (.double ppb), .second, .val (.double ppc), .second, .val (.int m0), .val (.double s0), .second, .val (.int jC), .val (.double xC), .second, .val (.int mz), .val (.double sl), .second, .val (.int nq), .val (.double sq), .second, .val (.double FP.dconst1), .second] [(.int (1 : Int32))])) := by
        refine r276.trans ?_
        show Steps p.tables e below (T218.setTop (mkF m 389 #[.val (.int p1), .val (.int p2), .val (.int p3), .val (.int p4), .val (.int p5), .val (.int rA), .val (.int rB), .val (.int rC), .val (.int rU), .val (.int q), .val (.double (FP.i2d sa)), .second, .val (.double (FP.i2d sb)), .second, .val (.double (FP.i2d sc)), .second, .val (.double (FP.i2d ia)), .second, .val (.double (FP.i2d ib)), .second, .val (.double (FP.i2d ic)), .second, .val (.double (FP.i2d ie)), .second, .val (.ref po), .val (.double gg), .second, .val (.double ppa), .second, .val (.double ppb), .second, .val (.double ppc), .second, .val (.int m0), .val (.double s0), .second, .val (.int jC), .val (.double xC), .second, .val (.int mz), .val (.double sl), .second, .val (.int nq), .val (.double sq), .second, .unset, .unset] [(.int mz)])) _
        refine XS.ifYes X218.here hx rfl (pc0 := 389) (pc' := 403) rfl (hb hby at_389) rfl ((if0 _ _).trans (flt h2).2.2.2) (by decide) (by decide) ?_
        show Steps p.tables e below (T218.setTop (mkF m 403 #[.val (.int p1), .val (.int p2), .val (.int p3), .val (.int p4), .val (.int p5), .val (.int rA), .val (.int rB), .val (.int rC), .val (.int rU), .val (.int q), .val (.double (FP.i2d sa)), .second, .val (.double (FP.i2d sb)), .second, .val (.double (FP.i2d sc)), .second, .val (.double (FP.i2d ia)), .second, .val (.double (FP.i2d ib)), .second, .val (.double (FP.i2d ic)), .second, .val (.double (FP.i2d ie)), .second, .val (.ref po), .val (.double gg), .second, .val (.double ppa), .second, .val (.double ppb), .second, .val (.double ppc), .second, .val (.int m0), .val (.double s0), .second, .val (.int jC), .val (.double xC), .second, .val (.int mz), .val (.double sl), .second, .val (.int nq), .val (.double sq), .second, .unset, .unset] [])) _
        refine XS.dconst1 X218.here hx rfl (hb hby at_403) rfl ?_
        show Steps p.tables e below (T218.setTop (mkF m 404 #[.val (.int p1), .val (.int p2), .val (.int p3), .val (.int p4), .val (.int p5), .val (.int rA), .val (.int rB), .val (.int rC), .val (.int rU), .val (.int q), .val (.double (FP.i2d sa)), .second, .val (.double (FP.i2d sb)), .second, .val (.double (FP.i2d sc)), .second, .val (.double (FP.i2d ia)), .second, .val (.double (FP.i2d ib)), .second, .val (.double (FP.i2d ic)), .second, .val (.double (FP.i2d ie)), .second, .val (.ref po), .val (.double gg), .second, .val (.double ppa), .second, .val (.double ppb), .second, .val (.double ppc), .second, .val (.int m0), .val (.double s0), .second, .val (.int jC), .val (.double xC), .second, .val (.int mz), .val (.double sl), .second, .val (.int nq), .val (.double sq), .second, .unset, .unset] [(.double FP.dconst1)])) _
        refine XS.dstore X218.here hx rfl (hb hby at_404) rfl (l' := #[.val (.int p1), .val (.int p2), .val (.int p3), .val (.int p4), .val (.int p5), .val (.int rA), .val (.int rB), .val (.int rC), .val (.int rU), .val (.int q), .val (.double (FP.i2d sa)), .second, .val (.double (FP.i2d sb)), .second, .val (.double (FP.i2d sc)), .second, .val (.double (FP.i2d ia)), .second, .val (.double (FP.i2d ib)), .second, .val (.double (FP.i2d ic)), .second, .val (.double (FP.i2d ie)), .second, .val (.ref po), .val (.double gg), .second, .val (.double ppa), .second, .val (.double ppb), .second, .val (.double ppc), .second, .val (.int m0), .val (.double s0), .second, .val (.int jC), .val (.double xC), .second, .val (.int mz), .val (.double sl), .second, .val (.int nq), .val (.double sq), .second, .val (.double FP.dconst1), .second]) rfl ?_
        show Steps p.tables e below (T218.setTop (mkF m 406 #[.val (.int p1), .val (.int p2), .val (.int p3), .val (.int p4), .val (.int p5), .val (.int rA), .val (.int rB), .val (.int rC), .val (.int rU), .val (.int q), .val (.double (FP.i2d sa)), .second, .val (.double (FP.i2d sb)), .second, .val (.double (FP.i2d sc)), .second, .val (.double (FP.i2d ia)), .second, .val (.double (FP.i2d ib)), .second, .val (.double (FP.i2d ic)), .second, .val (.double (FP.i2d ie)), .second, .val (.ref po), .val (.double gg), .second, .val (.double ppa), .second, .val (.double ppb), .second, .val (.double ppc), .second, .val (.int m0), .val (.double s0), .second, .val (.int jC), .val (.double xC), .second, .val (.int mz), .val (.double sl), .second, .val (.int nq), .val (.double sq), .second, .val (.double FP.dconst1), .second] [])) _
        refine XS.dload X218.here hx rfl (hb hby at_406) rfl ?_
        show Steps p.tables e below (T218.setTop (mkF m 408 #[.val (.int p1), .val (.int p2), .val (.int p3), .val (.int p4), .val (.int p5), .val (.int rA), .val (.int rB), .val (.int rC), .val (.int rU), .val (.int q), .val (.double (FP.i2d sa)), .second, .val (.double (FP.i2d sb)), .second, .val (.double (FP.i2d sc)), .second, .val (.double (FP.i2d ia)), .second, .val (.double (FP.i2d ib)), .second, .val (.double (FP.i2d ic)), .second, .val (.double (FP.i2d ie)), .second, .val (.ref po), .val (.double gg), .second, .val (.double ppa), .second, .val (.double ppb), .second, .val (.double ppc), .second, .val (.int m0), .val (.double s0), .second, .val (.int jC), .val (.double xC), .second, .val (.int mz), .val (.double sl), .second, .val (.int nq), .val (.double sq), .second, .val (.double FP.dconst1), .second] [(.double gg)])) _
        refine XS.dload X218.here hx rfl (hb hby at_408) rfl ?_
        show Steps p.tables e below (T218.setTop (mkF m 410 #[.val (.int p1), .val (.int p2), .val (.int p3), .val (.int p4), .val (.int p5), .val (.int rA), .val (.int rB), .val (.int rC), .val (.int rU), .val (.int q), .val (.double (FP.i2d sa)), .second, .val (.double (FP.i2d sb)), .second, .val (.double (FP.i2d sc)), .second, .val (.double (FP.i2d ia)), .second, .val (.double (FP.i2d ib)), .second, .val (.double (FP.i2d ic)), .second, .val (.double (FP.i2d ie)), .second, .val (.ref po), .val (.double gg), .second, .val (.double ppa), .second, .val (.double ppb), .second, .val (.double ppc), .second, .val (.int m0), .val (.double s0), .second, .val (.int jC), .val (.double xC), .second, .val (.int mz), .val (.double sl), .second, .val (.int nq), .val (.double sq), .second, .val (.double FP.dconst1), .second] [(.double FP.dconst1), (.double gg)])) _
        refine XS.dcmpS X218.here hx rfl (hb hby at_410) rfl (show cmpValue (FP.dcmp gg FP.dconst1) .l = (0 : Int32) from (by rw [hgg]; exact dcmpV_self dy_one.noNaN _)) ?_
        show Steps p.tables e below (T218.setTop (mkF m 411 #[.val (.int p1), .val (.int p2), .val (.int p3), .val (.int p4), .val (.int p5), .val (.int rA), .val (.int rB), .val (.int rC), .val (.int rU), .val (.int q), .val (.double (FP.i2d sa)), .second, .val (.double (FP.i2d sb)), .second, .val (.double (FP.i2d sc)), .second, .val (.double (FP.i2d ia)), .second, .val (.double (FP.i2d ib)), .second, .val (.double (FP.i2d ic)), .second, .val (.double (FP.i2d ie)), .second, .val (.ref po), .val (.double gg), .second, .val (.double ppa), .second, .val (.double ppb), .second, .val (.double ppc), .second, .val (.int m0), .val (.double s0), .second, .val (.int jC), .val (.double xC), .second, .val (.int mz), .val (.double sl), .second, .val (.int nq), .val (.double sq), .second, .val (.double FP.dconst1), .second] [(.int (0 : Int32))])) _
        refine XS.ifNo X218.here hx rfl (hb hby at_411) rfl ((if0 _ _).trans (teq rfl).2) ?_
        show Steps p.tables e below (T218.setTop (mkF m 414 #[.val (.int p1), .val (.int p2), .val (.int p3), .val (.int p4), .val (.int p5), .val (.int rA), .val (.int rB), .val (.int rC), .val (.int rU), .val (.int q), .val (.double (FP.i2d sa)), .second, .val (.double (FP.i2d sb)), .second, .val (.double (FP.i2d sc)), .second, .val (.double (FP.i2d ia)), .second, .val (.double (FP.i2d ib)), .second, .val (.double (FP.i2d ic)), .second, .val (.double (FP.i2d ie)), .second, .val (.ref po), .val (.double gg), .second, .val (.double ppa), .second, .val (.double ppb), .second, .val (.double ppc), .second, .val (.int m0), .val (.double s0), .second, .val (.int jC), .val (.double xC), .second, .val (.int mz), .val (.double sl), .second, .val (.int nq), .val (.double sq), .second, .val (.double FP.dconst1), .second] [])) _
        refine XS.iconst X218.here hx rfl (hb hby at_414) ?_
        show Steps p.tables e below (T218.setTop (mkF m 415 #[.val (.int p1), .val (.int p2), .val (.int p3), .val (.int p4), .val (.int p5), .val (.int rA), .val (.int rB), .val (.int rC), .val (.int rU), .val (.int q), .val (.double (FP.i2d sa)), .second, .val (.double (FP.i2d sb)), .second, .val (.double (FP.i2d sc)), .second, .val (.double (FP.i2d ia)), .second, .val (.double (FP.i2d ib)), .second, .val (.double (FP.i2d ic)), .second, .val (.double (FP.i2d ie)), .second, .val (.ref po), .val (.double gg), .second, .val (.double ppa), .second, .val (.double ppb), .second, .val (.double ppc), .second, .val (.int m0), .val (.double s0), .second, .val (.int jC), .val (.double xC), .second, .val (.int mz), .val (.double sl), .second, .val (.int nq), .val (.double sq), .second, .val (.double FP.dconst1), .second] [(.int (1 : Int32))])) _
        refine XS.goto X218.here hx rfl (pc0 := 415) (pc' := 419) rfl (hb hby at_415) (by decide) (by decide) ?_
        exact Steps.refl _
      obtain ⟨fs, hr, hrun, hended, hW, hsame⟩ := X218.leave (v := some (.int (1 : Int32))) (fun h => by rw [Bd.returns] at h; cases h)
      refine ⟨_, _, pre0 _ ?_, hrun, hended, _, _, rfl, ?_, ⟨_, rfl⟩, hW, hsame.mono (by decide) (by decide)⟩
      · rw [← hS0]
        refine r278.trans ?_
        show Steps p.tables e below (T218.setTop (mkF m 419 #[.val (.int p1), .val (.int p2), .val (.int p3), .val (.int p4), .val (.int p5), .val (.int rA), .val (.int rB), .val (.int rC), .val (.int rU), .val (.int q), .val (.double (FP.i2d sa)), .second, .val (.double (FP.i2d sb)), .second, .val (.double (FP.i2d sc)), .second, .val (.double (FP.i2d ia)), .second, .val (.double (FP.i2d ib)), .second, .val (.double (FP.i2d ic)), .second, .val (.double (FP.i2d ie)), .second, .val (.ref po), .val (.double gg), .second, .val (.double ppa), .second, .val (.double ppb), .second, .val (.double ppc), .second, .val (.int m0), .val (.double s0), .second, .val (.int jC), .val (.double xC), .second, .val (.int mz), .val (.double sl), .second, .val (.int nq), .val (.double sq), .second, .val (.double FP.dconst1), .second] [(.int (1 : Int32))])) _
        exact retB X218 hx Bd.returns (by first | exact Or.inr rfl | exact Or.inl rfl | (split <;> simp)) (hb hby at_419) hr
      · exact ⟨rfl, N218⟩
set_option maxRecDepth 65536 in
set_option maxHeartbeats 40000000 in
theorem comes_1 {Post : Tables → Env → Array Value → State → Outcome → State → Prop} (hpost : ∀ tb e args s v u, (limb_1_1.after args s (.returned v) u = true ∧ limb_1_2.after args s (.returned v) u = true ∧ True) → FrameEnd s (.returned v) u (Jvm.fieldLocs frame_1_writes args s ++ Jvm.arrayLocs frame_1_arrays args s ++ Jvm.staticLocs frame_1_statics s) 24 128 → Post tb e args s (.returned v) u) :
    ArmFor flags0 classFile x code maxLocals ret World_1 tables_1 room_1 Calls_1 rest_1 Pre_1 Post := by
  intro l hfl _ _ p e ha hc hk s m args below hf hA hF happ hP
  obtain ⟨hcalls, hrest, hpre⟩ := hP
  obtain ⟨-, -, -, hnamed, -, -, -, hat⟩ := (Spec.applies_iff hf).mp happ
  obtain ⟨hg, hn⟩ := and_e (Cond.before_iff.mp (show (Jvm.Cond.and given_1 narrow_1).before args s = true from hpre))
  obtain ⟨g0, hg⟩ := and_e hg
  obtain ⟨ga0, hg⟩ := and_e hg
  obtain ⟨ga1, hg⟩ := and_e hg
  obtain ⟨ga2, hg⟩ := and_e hg
  obtain ⟨ga3, hg⟩ := and_e hg
  have ga4 := hg
  obtain ⟨w0, w1, w2, w3, w4, rfl⟩ : ∃ w0 w1 w2 w3 w4 : Value, args = #[w0, w1, w2, w3, w4] := by
    have hs : args.size = 5 := by simpa [Cond.value, given_1] using g0
    obtain ⟨L⟩ := args
    match L, hs with
    | [w0, w1, w2, w3, w4], _ => exact ⟨w0, w1, w2, w3, w4, rfl⟩
  have hw := fun d (hd : d ∈ tables_1) => atoms_spec (ws := Jvm.Cond.code x code maxLocals ret :: tables_1) hat d (List.mem_cons_of_mem _ hd)
  have hfit : Fit s := fun {y c} hc i hi => by
    obtain ⟨ha, rfl⟩ := Array.getElem?_eq_some_iff.mp hc
    have q := List.all_eq_true.mp ((Array.all_eq_true_iff_forall_mem.mp hF) _ (Array.getElem_mem ha)) i (List.mem_range.mpr hi)
    simpa [Array.getElem?_eq_getElem hi] using q
  obtain ⟨i0, ei0⟩ := is_v ga0
  obtain rfl : w0 = (.int i0) := Option.some.inj ei0
  obtain ⟨i1, ei1⟩ := is_v ga1
  obtain rfl : w1 = (.int i1) := Option.some.inj ei1
  obtain ⟨i2, ei2⟩ := is_v ga2
  obtain rfl : w2 = (.int i2) := Option.some.inj ei2
  obtain ⟨i3, ei3⟩ := is_v ga3
  obtain rfl : w3 = (.int i3) := Option.some.inj ei3
  obtain ⟨i4, ei4⟩ := is_v ga4
  obtain rfl : w4 = (.int i4) := Option.some.inj ei4
  obtain ⟨n, o, h1, h2, h3, _, L, rfl, ⟨rfl, N⟩, hq⟩ := rm0 l s _ hw tables_1 i0 i1 i2 i3 i4 s.heap s.heap.size (Nat.le_refl _)  p e ha hc hk s m _ below hf ((Spec.applies_iff_loose hf).mp happ).1 ⟨rfl, State.Warmed39.refl s, rfl⟩ trivial
  refine ⟨n, _, h1, h2, h3, hpost _ _ _ _ _ _ ⟨Cond.after_iff.mpr rfl, Cond.after_iff.mpr (eq_i res_at (Term.int_eval (1)) rfl), trivial⟩ ⟨hq.1, hq.2.1, (hq.2.2.sift fun y hy => Or.inr (N y hy)).mono (by decide) (by decide)⟩⟩
theorem main_1_1 : Claimed_1_1 := comes_1 fun _ _ _ _ _ _ h hF => ⟨h.1, hF⟩
theorem main_1_2 : Claimed_1_2 := comes_1 fun _ _ _ _ _ _ h hF => ⟨h.2.1, hF⟩
end Jvm.Pilot.@@N@@
namespace Jvm.Pilot.@@N@@
open Jvm Jvm.ClassFile Sem Op Lib Jvm.Free Jvm.Stand Jvm.Pilot.@@N@@.Jvm.D
/-! MADE BY PROGRAM (witnessworld.py) out of the Statement's table words and the real class files: 12 classes; the members and pool entries that the words name. The judged class is class 1, her method 1. -/
namespace start1
open Jvm.ClassFile
def u (s : String) : CpInfo := .utf8 (stringToUtf16 s)
/-- a pool by its gaps: so many unusable entries, then the entry; so many at the end -/
def gap : Nat → List CpInfo → List CpInfo
  | 0, r => r
  | n + 1, r => .unusable :: gap n r
def poolList (es : List (Nat × CpInfo)) (last : Nat) : List CpInfo := es.foldr (fun e r => gap e.1 (e.2 :: r)) (gap last [])
def pool (es : List (Nat × CpInfo)) (last : Nat) : Array CpInfo := ⟨poolList es last⟩
def fileOf (pool : Array CpInfo) (this : Nat) (attrs : Array Attribute := #[]) (ms : Array MethodInfo := #[]) (fl : Nat := 33) (sup : Nat := 0) (ifs : Array Nat := #[]) (fds : Array FieldInfo := #[]) : ClassFile where
  minorVersion := 0
  majorVersion := 65
  constantPool := pool
  accessFlags := fl
  thisClass := this
  superClass := sup
  interfaces := ifs
  fields := fds
  methods := ms
  attributes := attrs
def plain (name : String) (sup : Option ClassId) : Class where
  name := name
  kind := .ordinary
  loader := none
  accessFlags := 33
  super := sup
  interfaces := #[]
  cf := none
  fields := #[]
  methods := #[]
  instanceTypes := #[]
  staticTypes := #[]
  resolved := #[]
  callSites := []
  init := .initialized
  statics := none
  mirror := none

def pool0 : Array CpInfo := pool [(5, u "<init>"), (0, u "()V"), (1, .class_ 10), (1, u "java/lang/Object")] 113

def k0c0 : Code := { maxStack := 0, maxLocals := 1, code := object_method_1_code, exceptionTable := #[], attributes := #[] }
def k0m0 : Method := { name := "<init>", desc := "()V", sig := { parameters := [], returnType := none }, accessFlags := 1, code := some k0c0 }
/-- java/lang/Object -/
def k0 : Class := { plain "java/lang/Object" none with
  accessFlags := 33
  interfaces := #[]
  cf := some (fileOf pool0 8 #[] #[{ accessFlags := 1, nameIndex := 5, descriptorIndex := 6, attributes := #[] }] 33 0 #[] #[])
  fields := #[]
  methods := #[k0m0]
  instanceTypes := #[]
  staticTypes := #[]
  resolved := Array.replicate 124 none
  statics := none }

def pool1 : Array CpInfo := pool [(2, .class_ 4), (1, u "java/lang/Object"), (0, u "<init>"), (0, u "()V"), (0, .class_ 8), (0, u "com/example/pivotline/pivotline/Pseudocosts"), (0, .methodref 7 10), (0, .nameAndType 5 11), (0, u "(I)V"), (0, .methodref 7 13), (0, .nameAndType 14 15), (0, u "record"), (0, u "(IZDD)V"), (0, .methodref 7 17), (0, .nameAndType 18 19), (0, u "down"), (0, u "(I)D"), (0, .methodref 21 22), (0, .class_ 23), (0, .nameAndType 24 25), (0, u "com/example/pivotline/pivotline/PseudocostsDownPinLaw"), (0, u "pos"), (0, u "(D)D"), (2, u "law"), (0, u "(IIIII)Z")] 3

def k1m0 : Method := { name := "<init>", desc := "()V", sig := { parameters := [], returnType := none }, accessFlags := 1, code := none }
def k1c1 : Code := { maxStack := 7, maxLocals := 47, code := code, exceptionTable := #[], attributes := #[] }
def k1m1 : Method := { name := "law", desc := "(IIIII)Z", sig := { parameters := [.int, .int, .int, .int, .int], returnType := some .boolean }, accessFlags := 9, code := some k1c1 }
def k1c2 : Code := { maxStack := 4, maxLocals := 2, code := method_3_code, exceptionTable := #[], attributes := #[] }
def k1m2 : Method := { name := "pos", desc := "(D)D", sig := { parameters := [.double], returnType := some .double }, accessFlags := 10, code := some k1c2 }
/-- com/example/pivotline/pivotline/PseudocostsDownPinLaw -/
def k1 : Class := { plain "com/example/pivotline/pivotline/PseudocostsDownPinLaw" (some 0) with
  accessFlags := 49
  interfaces := #[]
  cf := some (fileOf pool1 21 #[] #[{ accessFlags := 1, nameIndex := 5, descriptorIndex := 6, attributes := #[] }, { accessFlags := 9, nameIndex := 28, descriptorIndex := 29, attributes := #[] }, { accessFlags := 10, nameIndex := 24, descriptorIndex := 25, attributes := #[] }] 49 2 #[] #[])
  fields := #[]
  methods := #[k1m0, k1m1, k1m2]
  instanceTypes := #[]
  staticTypes := #[]
  resolved := Array.replicate 33 none
  statics := none }

def pool2 : Array CpInfo := pool [(1, .methodref 2 3), (0, .class_ 4), (0, .nameAndType 5 6), (0, u "java/lang/Object"), (0, u "<init>"), (0, u "()V"), (0, .fieldref 8 9), (0, .class_ 10), (0, .nameAndType 11 12), (0, u "com/example/pivotline/pivotline/Pseudocosts"), (0, u "downSum"), (0, u "[D"), (0, .fieldref 8 14), (0, .nameAndType 15 12), (0, u "upSum"), (0, .fieldref 8 17), (0, .nameAndType 18 19), (0, u "downCount"), (0, u "[I"), (0, .fieldref 8 21), (0, .nameAndType 22 19), (0, u "upCount"), (0, .methodref 24 25), (0, .class_ 26), (0, .nameAndType 27 28), (0, u "java/lang/Math"), (0, u "max"), (0, u "(DD)D"), (0, .fieldref 8 30), (0, .nameAndType 31 32), (0, u "allUpSum"), (0, u "D"), (0, .fieldref 8 34), (0, .nameAndType 35 36), (0, u "allUpCount"), (0, u "J"), (0, .fieldref 8 38), (0, .nameAndType 39 32), (0, u "allDownSum"), (0, .fieldref 8 41), (0, .nameAndType 42 36), (0, u "allDownCount"), (0, .methodref 8 44), (0, .nameAndType 45 46), (0, u "mean"), (0, u "(DIDJ)D"), (6, u "RELIABLE_COUNT"), (0, u "I"), (2, u "SMALLEST_RISE"), (0, u "(I)V"), (2, u "record"), (0, u "(IZDD)V"), (1, u "down"), (0, u "(I)D")] 6

def k2c0 : Code := { maxStack := 2, maxLocals := 2, code := prog_24_method_1_code, exceptionTable := #[], attributes := #[] }
def k2m0 : Method := { name := "<init>", desc := "(I)V", sig := { parameters := [.int], returnType := none }, accessFlags := 0, code := some k2c0 }
def k2c1 : Code := { maxStack := 6, maxLocals := 9, code := prog_24_method_2_code, exceptionTable := #[], attributes := #[] }
def k2m1 : Method := { name := "record", desc := "(IZDD)V", sig := { parameters := [.int, .boolean, .double, .double], returnType := none }, accessFlags := 0, code := some k2c1 }
def k2c2 : Code := { maxStack := 7, maxLocals := 2, code := prog_24_method_3_code, exceptionTable := #[], attributes := #[] }
def k2m2 : Method := { name := "down", desc := "(I)D", sig := { parameters := [.int], returnType := some .double }, accessFlags := 0, code := some k2c2 }
def k2c3 : Code := { maxStack := 4, maxLocals := 9, code := prog_24_method_7_code, exceptionTable := #[], attributes := #[] }
def k2m3 : Method := { name := "mean", desc := "(DIDJ)D", sig := { parameters := [.double, .int, .double, .long], returnType := some .double }, accessFlags := 10, code := some k2c3 }
/-- com/example/pivotline/pivotline/Pseudocosts -/
def k2 : Class := { plain "com/example/pivotline/pivotline/Pseudocosts" (some 0) with
  accessFlags := 48
  interfaces := #[]
  cf := some (fileOf pool2 8 #[] #[{ accessFlags := 0, nameIndex := 5, descriptorIndex := 58, attributes := #[] }, { accessFlags := 0, nameIndex := 61, descriptorIndex := 62, attributes := #[] }, { accessFlags := 0, nameIndex := 64, descriptorIndex := 65, attributes := #[] }, { accessFlags := 10, nameIndex := 45, descriptorIndex := 46, attributes := #[] }] 48 2 #[] #[{ accessFlags := 24, nameIndex := 53, descriptorIndex := 54, attributes := #[] }, { accessFlags := 26, nameIndex := 57, descriptorIndex := 32, attributes := #[] }, { accessFlags := 18, nameIndex := 11, descriptorIndex := 12, attributes := #[] }, { accessFlags := 18, nameIndex := 15, descriptorIndex := 12, attributes := #[] }, { accessFlags := 18, nameIndex := 18, descriptorIndex := 19, attributes := #[] }, { accessFlags := 18, nameIndex := 22, descriptorIndex := 19, attributes := #[] }, { accessFlags := 2, nameIndex := 39, descriptorIndex := 32, attributes := #[] }, { accessFlags := 2, nameIndex := 31, descriptorIndex := 32, attributes := #[] }, { accessFlags := 2, nameIndex := 42, descriptorIndex := 36, attributes := #[] }, { accessFlags := 2, nameIndex := 35, descriptorIndex := 36, attributes := #[] }])
  fields := #[{ name := "RELIABLE_COUNT", type := .int, accessFlags := 24, slot := 0, constantValue := 0 }, { name := "SMALLEST_RISE", type := .double, accessFlags := 26, slot := 1, constantValue := 0 }, { name := "downSum", type := (.array .double), accessFlags := 18, slot := 0, constantValue := 0 }, { name := "upSum", type := (.array .double), accessFlags := 18, slot := 1, constantValue := 0 }, { name := "downCount", type := (.array .int), accessFlags := 18, slot := 2, constantValue := 0 }, { name := "upCount", type := (.array .int), accessFlags := 18, slot := 3, constantValue := 0 }, { name := "allDownSum", type := .double, accessFlags := 2, slot := 4, constantValue := 0 }, { name := "allUpSum", type := .double, accessFlags := 2, slot := 5, constantValue := 0 }, { name := "allDownCount", type := .long, accessFlags := 2, slot := 6, constantValue := 0 }, { name := "allUpCount", type := .long, accessFlags := 2, slot := 7, constantValue := 0 }]
  methods := #[k2m0, k2m1, k2m2, k2m3]
  instanceTypes := #[(.array .double), (.array .double), (.array .int), (.array .int), .double, .double, .long, .long]
  staticTypes := #[.int, .double]
  resolved := Array.replicate 72 none
  statics := none }

def pool3 : Array CpInfo := pool [(1, .class_ 2), (0, u "java/lang/Math"), (1, .class_ 6), (1, u "java/lang/Object"), (0, u "<init>"), (0, u "()V"), (43, u "(DD)D"), (45, .class_ 100), (1, u "java/lang/Math$RandomNumberGeneratorHolder"), (71, u "negativeZeroFloatBits"), (0, u "J"), (2, u "negativeZeroDoubleBits"), (21, u "max"), (46, u "$assertionsDisabled"), (0, u "Z"), (91, u "twoToTheDoubleScaleDown"), (0, u "D"), (4, u "twoToTheDoubleScaleUp"), (9, u "E"), (3, u "PI"), (2, u "TAU"), (2, u "DEGREES_TO_RADIANS"), (0, u "RADIANS_TO_DEGREES")] 94

def k3m0 : Method := { name := "<init>", desc := "()V", sig := { parameters := [], returnType := none }, accessFlags := 2, code := none }
def k3c1 : Code := { maxStack := 4, maxLocals := 4, code := jdk_29_method_68_code, exceptionTable := #[], attributes := #[] }
def k3m1 : Method := { name := "max", desc := "(DD)D", sig := { parameters := [.double, .double], returnType := some .double }, accessFlags := 9, code := some k3c1 }
/-- java/lang/Math -/
def k3 : Class := { plain "java/lang/Math" (some 0) with
  accessFlags := 49
  interfaces := #[]
  cf := some (fileOf pool3 1 #[.nestMembers #[98]] #[{ accessFlags := 2, nameIndex := 7, descriptorIndex := 8, attributes := #[] }, { accessFlags := 9, nameIndex := 198, descriptorIndex := 52, attributes := #[] }] 49 4 #[] #[{ accessFlags := 25, nameIndex := 354, descriptorIndex := 339, attributes := #[] }, { accessFlags := 25, nameIndex := 358, descriptorIndex := 339, attributes := #[] }, { accessFlags := 25, nameIndex := 361, descriptorIndex := 339, attributes := #[] }, { accessFlags := 26, nameIndex := 364, descriptorIndex := 339, attributes := #[] }, { accessFlags := 26, nameIndex := 365, descriptorIndex := 339, attributes := #[] }, { accessFlags := 26, nameIndex := 172, descriptorIndex := 173, attributes := #[] }, { accessFlags := 26, nameIndex := 176, descriptorIndex := 173, attributes := #[] }, { accessFlags := 8, nameIndex := 344, descriptorIndex := 339, attributes := #[] }, { accessFlags := 8, nameIndex := 338, descriptorIndex := 339, attributes := #[] }, { accessFlags := 4120, nameIndex := 245, descriptorIndex := 246, attributes := #[] }])
  fields := #[{ name := "E", type := .double, accessFlags := 25, slot := 0, constantValue := 0 }, { name := "PI", type := .double, accessFlags := 25, slot := 1, constantValue := 0 }, { name := "TAU", type := .double, accessFlags := 25, slot := 2, constantValue := 0 }, { name := "DEGREES_TO_RADIANS", type := .double, accessFlags := 26, slot := 3, constantValue := 0 }, { name := "RADIANS_TO_DEGREES", type := .double, accessFlags := 26, slot := 4, constantValue := 0 }, { name := "negativeZeroFloatBits", type := .long, accessFlags := 26, slot := 5, constantValue := 0 }, { name := "negativeZeroDoubleBits", type := .long, accessFlags := 26, slot := 6, constantValue := 0 }, { name := "twoToTheDoubleScaleUp", type := .double, accessFlags := 8, slot := 7, constantValue := 0 }, { name := "twoToTheDoubleScaleDown", type := .double, accessFlags := 8, slot := 8, constantValue := 0 }, { name := "$assertionsDisabled", type := .boolean, accessFlags := 4120, slot := 9, constantValue := 0 }]
  methods := #[k3m0, k3m1]
  instanceTypes := #[]
  staticTypes := #[.double, .double, .double, .double, .double, .long, .long, .double, .double, .boolean]
  resolved := Array.replicate 460 none
  statics := none }

def pool4 : Array CpInfo := pool [(1, u "java/lang/Cloneable"), (0, .class_ 1), (0, u "java/lang/Object"), (0, .class_ 3)] 3

/-- java/lang/Cloneable -/
def k4 : Class := { plain "java/lang/Cloneable" (some 0) with
  accessFlags := 1537
  interfaces := #[]
  cf := some (fileOf pool4 2 #[] #[] 1537 4 #[] #[])
  fields := #[]
  methods := #[]
  instanceTypes := #[]
  staticTypes := #[]
  resolved := Array.replicate 8 none
  statics := none }

def pool5 : Array CpInfo := pool [(1, u "java/io/Serializable"), (0, .class_ 1), (0, u "java/lang/Object"), (0, .class_ 3)] 3

/-- java/io/Serializable -/
def k5 : Class := { plain "java/io/Serializable" (some 0) with
  accessFlags := 1537
  interfaces := #[]
  cf := some (fileOf pool5 2 #[] #[] 1537 4 #[] #[])
  fields := #[]
  methods := #[]
  instanceTypes := #[]
  staticTypes := #[]
  resolved := Array.replicate 8 none
  statics := none }

/-- the primitive byte -/
def k6 : Class := { plain "byte" none with kind := .primitive 'B', accessFlags := 0x411 }
/-- [B -/
def k7 : Class := { plain "[B" (some 0) with kind := .array 6 .byte, interfaces := #[4, 5], accessFlags := 1041 }

/-- the primitive double -/
def k8 : Class := { plain "double" none with kind := .primitive 'D', accessFlags := 0x411 }
/-- [D -/
def k9 : Class := { plain "[D" (some 0) with kind := .array 8 .double, interfaces := #[4, 5], accessFlags := 1041 }

/-- the primitive int -/
def k10 : Class := { plain "int" none with kind := .primitive 'I', accessFlags := 0x411 }
/-- [I -/
def k11 : Class := { plain "[I" (some 0) with kind := .array 10 .int, interfaces := #[4, 5], accessFlags := 1041 }

def heap : Heap := #[]
def classes : Array Class := #[k0, k1, k2, k3, k4, k5, k6, k7, k8, k9, k10, k11]
def interned : List (Array UInt16 × Addr) := []
def slotsUsed : Nat := 0
def theMethod : MethodId := ⟨1, 1⟩
def args0 : Array Value := #[.int 5, .int 5, .int 5, .int 5, .int 5]
def aboutOver (below : List Frame) : State where
  vm := { classes := classes, interned := interned.toArray }
  heap := heap
  slotsUsed := slotsUsed
  threads := #[{ frames := .invoking theMethod args0 :: below }]
def below0 : List Frame := [.native { method := ⟨0, 0⟩, args := #[] }]
def about1 : State := aboutOver below0
def p0 : Program := .bare "" "" ""
def e0 : Env := launch0.env 0 0 0
theorem w_frames : about1.frames = Frame.invoking theMethod args0 :: below0 := rfl
set_option maxRecDepth 65536 in
theorem w_args : argsFit about1.vm theMethod args0 = true := by decide +kernel
set_option maxRecDepth 65536 in
theorem w_heap : heapFits about1 = true := by decide +kernel
set_option maxRecDepth 65536 in
theorem w_runnable : about1.curStatus? = some .runnable := by decide +kernel
set_option maxRecDepth 65536 in
theorem w_alone : about1.alone = true := by decide +kernel
set_option maxRecDepth 65536 in
theorem w_named : about1.methodNamed? x = some theMethod := by decide +kernel
set_option maxRecDepth 65536 in
theorem w_hears : about1.hears theMethod below0 = true := by decide +kernel
set_option maxRecDepth 65536 in
theorem w_ripe : about1.ripe theMethod args0 below0 = true := by decide +kernel
theorem w_running : about1.status = .running := rfl
set_option maxRecDepth 65536 in
theorem w_room : about1.hasRoom e0.platform room_1 = true :=
  launch0.hasRoom_least _ room_1 (by decide +kernel) (by decide +kernel) (by decide +kernel) (by decide +kernel) (by decide +kernel) (by decide +kernel)
theorem allAtoms_all (ts : List Jvm.Cond) (a : Array Jvm.Value) (st : Jvm.State) : (allAtoms ts).before a st = ts.all (fun c => c.before a st) := by
  induction ts with
  | nil => rfl
  | cons c t ih =>
    show (Jvm.Cond.and c (allAtoms t)).before a st = _
    rw [Jvm.Cond.before_and, ih, List.all_cons]
def words1 : List Jvm.Cond := Jvm.Cond.code x code maxLocals ret :: tables_1
/-- a 'code' word, met by the world's own term for the bytes: nothing is compared byte by byte -/
theorem code_word {y : MethodName} {bytes : ByteArray} {mx : Nat} {rt : Option FieldType} {a : Array Value} {s : State} {m : MethodId} {meth : Method} {c : Code} (h1 : s.methodNamed? y = some m) (h2 : s.vm.method? m = some meth) (h3 : meth.code = some c) (h4 : c.code = bytes)
    (h5 : (c.maxLocals == mx && c.exceptionTable.isEmpty && decide (c.maxStack ≤ mostOperands) && decide (meth.sig.returnType = rt) && !meth.locks && decide (parseMethodDescriptor y.desc = some meth.sig)) = true) : (Jvm.Cond.code y bytes mx rt).before a s = true := by
  simp only [Bool.and_eq_true, beq_iff_eq, Bool.not_eq_true', decide_eq_true_eq] at h5
  obtain ⟨⟨⟨⟨⟨g1, g2⟩, g3⟩, g4⟩, g5⟩, g6⟩ := h5
  simp [Cond.before, Cond.holds, Cond.value, h1, h2, h3, h4, g1, g2, g3, g4, g5, g6]
def isCode : Jvm.Cond → Bool
  | .code _ _ _ _ => true
  | _ => false
theorem all_split {L : List Jvm.Cond} {P : Jvm.Cond → Bool} (h1 : L.all (fun c => isCode c || P c) = true) (h2 : ∀ c ∈ L.filter isCode, P c = true) : L.all P = true := by
  refine List.all_eq_true.mpr fun c hc => ?_
  have h := List.all_eq_true.mp h1 c hc
  rcases Bool.eq_false_or_eq_true (isCode c) with hi | hi
  · exact h2 c (List.mem_filter.mpr ⟨hc, hi⟩)
  · simpa [hi] using h
set_option maxRecDepth 65536 in
theorem w_c0 : (Jvm.Cond.code x code maxLocals ret).before args0 about1 = true := code_word (m := ⟨1, 1⟩) (meth := k1m1) (c := k1c1) (by decide +kernel) rfl rfl rfl (by decide +kernel)
set_option maxRecDepth 65536 in
theorem w_c1 : (Jvm.Cond.code ({ cls := "com/example/pivotline/pivotline/Pseudocosts", name := "<init>", desc := "(I)V" } : Jvm.MethodName) prog_24_method_1_code (2 : Nat) (Option.none : Option Jvm.ClassFile.FieldType)).before args0 about1 = true := code_word (m := ⟨2, 0⟩) (meth := k2m0) (c := k2c0) (by decide +kernel) rfl rfl rfl (by decide +kernel)
set_option maxRecDepth 65536 in
theorem w_c2 : (Jvm.Cond.code ({ cls := "java/lang/Object", name := "<init>", desc := "()V" } : Jvm.MethodName) object_method_1_code (1 : Nat) (Option.none : Option Jvm.ClassFile.FieldType)).before args0 about1 = true := code_word (m := ⟨0, 0⟩) (meth := k0m0) (c := k0c0) (by decide +kernel) rfl rfl rfl (by decide +kernel)
set_option maxRecDepth 65536 in
theorem w_c3 : (Jvm.Cond.code ({ cls := "com/example/pivotline/pivotline/Pseudocosts", name := "down", desc := "(I)D" } : Jvm.MethodName) prog_24_method_3_code (2 : Nat) (Option.some Jvm.ClassFile.FieldType.double)).before args0 about1 = true := code_word (m := ⟨2, 2⟩) (meth := k2m2) (c := k2c2) (by decide +kernel) rfl rfl rfl (by decide +kernel)
set_option maxRecDepth 65536 in
theorem w_c4 : (Jvm.Cond.code ({ cls := "com/example/pivotline/pivotline/Pseudocosts", name := "mean", desc := "(DIDJ)D" } : Jvm.MethodName) prog_24_method_7_code (9 : Nat) (Option.some Jvm.ClassFile.FieldType.double)).before args0 about1 = true := code_word (m := ⟨2, 3⟩) (meth := k2m3) (c := k2c3) (by decide +kernel) rfl rfl rfl (by decide +kernel)
set_option maxRecDepth 65536 in
theorem w_c5 : (Jvm.Cond.code ({ cls := "com/example/pivotline/pivotline/PseudocostsDownPinLaw", name := "pos", desc := "(D)D" } : Jvm.MethodName) method_3_code (2 : Nat) (Option.some Jvm.ClassFile.FieldType.double)).before args0 about1 = true := code_word (m := ⟨1, 2⟩) (meth := k1m2) (c := k1c2) (by decide +kernel) rfl rfl rfl (by decide +kernel)
set_option maxRecDepth 65536 in
theorem w_c6 : (Jvm.Cond.code ({ cls := "com/example/pivotline/pivotline/Pseudocosts", name := "record", desc := "(IZDD)V" } : Jvm.MethodName) prog_24_method_2_code (9 : Nat) (Option.none : Option Jvm.ClassFile.FieldType)).before args0 about1 = true := code_word (m := ⟨2, 1⟩) (meth := k2m1) (c := k2c1) (by decide +kernel) rfl rfl rfl (by decide +kernel)
set_option maxRecDepth 65536 in
theorem w_c7 : (Jvm.Cond.code ({ cls := "java/lang/Math", name := "max", desc := "(DD)D" } : Jvm.MethodName) jdk_29_method_68_code (4 : Nat) (Option.some Jvm.ClassFile.FieldType.double)).before args0 about1 = true := code_word (m := ⟨3, 1⟩) (meth := k3m1) (c := k3c1) (by decide +kernel) rfl rfl rfl (by decide +kernel)
def codes1 : List Jvm.Cond := [Jvm.Cond.code x code maxLocals ret, Jvm.Cond.code ({ cls := "com/example/pivotline/pivotline/Pseudocosts", name := "<init>", desc := "(I)V" } : Jvm.MethodName) prog_24_method_1_code (2 : Nat) (Option.none : Option Jvm.ClassFile.FieldType), Jvm.Cond.code ({ cls := "java/lang/Object", name := "<init>", desc := "()V" } : Jvm.MethodName) object_method_1_code (1 : Nat) (Option.none : Option Jvm.ClassFile.FieldType), Jvm.Cond.code ({ cls := "com/example/pivotline/pivotline/Pseudocosts", name := "down", desc := "(I)D" } : Jvm.MethodName) prog_24_method_3_code (2 : Nat) (Option.some Jvm.ClassFile.FieldType.double), Jvm.Cond.code ({ cls := "com/example/pivotline/pivotline/Pseudocosts", name := "mean", desc := "(DIDJ)D" } : Jvm.MethodName) prog_24_method_7_code (9 : Nat) (Option.some Jvm.ClassFile.FieldType.double), Jvm.Cond.code ({ cls := "com/example/pivotline/pivotline/PseudocostsDownPinLaw", name := "pos", desc := "(D)D" } : Jvm.MethodName) method_3_code (2 : Nat) (Option.some Jvm.ClassFile.FieldType.double), Jvm.Cond.code ({ cls := "com/example/pivotline/pivotline/Pseudocosts", name := "record", desc := "(IZDD)V" } : Jvm.MethodName) prog_24_method_2_code (9 : Nat) (Option.none : Option Jvm.ClassFile.FieldType), Jvm.Cond.code ({ cls := "java/lang/Math", name := "max", desc := "(DD)D" } : Jvm.MethodName) jdk_29_method_68_code (4 : Nat) (Option.some Jvm.ClassFile.FieldType.double)]
set_option maxRecDepth 65536 in
theorem codes_eq : words1.filter isCode = codes1 := rfl
theorem w_codes : ∀ c ∈ words1.filter isCode, c.before args0 about1 = true := by
  rw [codes_eq]
  intro c hc
  simp only [codes1, List.mem_cons, List.not_mem_nil, or_false] at hc
  rcases hc with rfl | rfl | rfl | rfl | rfl | rfl | rfl | rfl
  · exact w_c0
  · exact w_c1
  · exact w_c2
  · exact w_c3
  · exact w_c4
  · exact w_c5
  · exact w_c6
  · exact w_c7
set_option maxRecDepth 65536 in
theorem w_t1 : (words1.take 24).all (fun c => isCode c || c.before args0 about1) = true := by decide +kernel
set_option maxRecDepth 65536 in
theorem w_t2 : ((words1.drop 24).take 24).all (fun c => isCode c || c.before args0 about1) = true := by decide +kernel
set_option maxRecDepth 65536 in
theorem w_t3 : ((words1.drop 24).drop 24).all (fun c => isCode c || c.before args0 about1) = true := by decide +kernel
theorem w_tables : (allAtoms (Jvm.Cond.code x code maxLocals ret :: tables_1)).before args0 about1 = true := by
  rw [allAtoms_all]
  show words1.all (fun c => c.before args0 about1) = true
  refine all_split ?_ w_codes
  rw [← List.take_append_drop 24 words1, List.all_append, w_t1, ← List.take_append_drop 24 (words1.drop 24), List.all_append, w_t2, w_t3]
  rfl
set_option maxRecDepth 65536 in
theorem w_case : (Jvm.Cond.and given_1 narrow_1).before args0 about1 = true := by decide +kernel
theorem w_applies : (headSpec (Jvm.Cond.code x code maxLocals ret :: tables_1) room_1).applies x e0.platform about1 = true :=
  (Spec.applies_iff w_frames).mpr ⟨w_running, w_runnable, w_alone, w_named, w_hears, w_ripe, w_room, w_tables⟩
theorem atStart : AtStart classFile x code maxLocals ret World_1 tables_1 room_1 Calls_1 rest_1 Pre_1 launch0 p0 e0 about1 theMethod args0 below0 :=
  ⟨lists_1, trivial, launch0.admits_env _ _ _, launch0.least_env, fairChoices_fair.cas, fairChoices_fair.clock, w_frames, w_args, w_heap, w_applies, trivial, trivial, w_case⟩
end start1
theorem witness_1 : WitnessClaimed_1 := ⟨start1.p0, start1.e0, start1.about1, start1.theMethod, start1.args0, start1.below0, start1.atStart⟩
end Jvm.Pilot.@@N@@
