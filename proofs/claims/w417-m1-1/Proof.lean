import JvmDerived
import JvmDerived.Pilot.@@N@@Statement
import JvmDerived.Pilot.@@N@@Code
set_option linter.unusedVariables false
set_option linter.unusedSimpArgs false
namespace Jvm.OwnF
open Jvm.FP Jvm.Free.Fl
/-! Exact dyadic arithmetic on doubles: Dy i k u says that the double u is the number i / 2^k. -/
/-- the datum times 2^k -/
def sh (k : Int) : Core.Datum → Core.Datum
  | .nan => .nan
  | .inf s => .inf s
  | .fin s c q => .fin s c (q + k)
def Dy (i : Int) (k : Nat) (u : UInt64) : Prop := Core.Whole i (sh k (Core.val64 u))
theorem ifc3 {α : Type} {p q : Prop} [Decidable p] [Decidable q] {a b c d : α} (h : p ↔ q) (h1 : a = c) (h2 : b = d) : (if p then a else b) = (if q then c else d) := by
  subst h1 h2
  by_cases hp : p
  · rw [if_pos hp, if_pos (h.mp hp)]
  · rw [if_neg hp, if_neg (fun z => hp (h.mpr z))]
theorem mpos {a b : Int} (hb : 0 < b) : 0 < a * b ↔ 0 < a := by
  constructor
  · intro h
    refine Int.lt_of_not_ge fun hle => ?_
    have q := Int.mul_le_mul_of_nonneg_right hle (Int.le_of_lt hb)
    rw [Int.zero_mul] at q
    omega
  · intro h
    exact Int.mul_pos h hb
theorem sh_zero (d : Core.Datum) : sh ((0 : Nat) : Int) d = d := by
  cases d with
  | nan => rfl
  | inf s => rfl
  | fin s c q => show Core.Datum.fin s c (q + ((0 : Nat) : Int)) = _; rw [show q + ((0 : Nat) : Int) = q by omega]
theorem sh_neg (k : Int) (d : Core.Datum) : Core.negate (sh k d) = sh k (Core.negate d) := by cases d <;> rfl
theorem sh_sum (k : Int) (x y : Core.Datum) : Core.exactSum (sh k x) (sh k y) = sh k (Core.exactSum x y) := by
  cases x with
  | nan => cases y <;> rfl
  | inf s =>
    cases y with
    | nan => rfl
    | inf t => show (if s = t then Core.Datum.inf s else .nan) = sh k (if s = t then Core.Datum.inf s else .nan); split <;> rfl
    | fin t d r => rfl
  | fin s c q =>
    cases y with
    | nan => rfl
    | inf t => rfl
    | fin t d r =>
      have hm : min (q + k) (r + k) = min q r + k := by omega
      have hu : Core.sumUnits s c (q + k) t d (r + k) (min (q + k) (r + k)) = Core.sumUnits s c q t d r (min q r) := by
        rw [hm]
        unfold Core.sumUnits Core.inUnits
        rw [show q + k - (min q r + k) = q - min q r by omega, show r + k - (min q r + k) = r - min q r by omega]
      show Core.Datum.fin (Core.sumSign s t (Core.sumUnits s c (q + k) t d (r + k) (min (q + k) (r + k)))) (Core.sumUnits s c (q + k) t d (r + k) (min (q + k) (r + k))).natAbs (min (q + k) (r + k)) = Core.Datum.fin (Core.sumSign s t (Core.sumUnits s c q t d r (min q r))) (Core.sumUnits s c q t d r (min q r)).natAbs (min q r + k)
      rw [hu, hm]
theorem sh_prod (j k : Int) (x y : Core.Datum) : Core.exactProduct (sh j x) (sh k y) = sh (j + k) (Core.exactProduct x y) := by
  cases x with
  | nan => cases y <;> rfl
  | inf s =>
    cases y with
    | nan => rfl
    | inf t => rfl
    | fin t d r => show (if d = 0 then Core.Datum.nan else .inf (s != t)) = sh (j + k) (if d = 0 then Core.Datum.nan else .inf (s != t)); split <;> rfl
  | fin s c q =>
    cases y with
    | nan => rfl
    | inf t => show (if c = 0 then Core.Datum.nan else .inf (s != t)) = sh (j + k) (if c = 0 then Core.Datum.nan else .inf (s != t)); split <;> rfl
    | fin t d r => show Core.Datum.fin (s != t) (c * d) (q + j + (r + k)) = Core.Datum.fin (s != t) (c * d) (q + r + (j + k)); rw [show q + j + (r + k) = q + r + (j + k) by omega]
theorem sh_order (k : Int) (x y : Core.Datum) : Core.order (sh k x) (sh k y) = Core.order x y := by
  cases x with
  | nan => cases y <;> rfl
  | inf s => cases y <;> rfl
  | fin s c q =>
    cases y with
    | nan => rfl
    | inf t => rfl
    | fin t d r =>
      have hm : min (q + k) (r + k) = min q r + k := by omega
      show some (compare (Core.signed s (Core.inUnits c (q + k) (min (q + k) (r + k)))) (Core.signed t (Core.inUnits d (r + k) (min (q + k) (r + k))))) = some (compare (Core.signed s (Core.inUnits c q (min q r))) (Core.signed t (Core.inUnits d r (min q r))))
      unfold Core.inUnits
      rw [hm, show q + k - (min q r + k) = q - min q r by omega, show r + k - (min q r + k) = r - min q r by omega]
theorem sgn_whole {i : Int} {s : Bool} {c : Nat} {q : Int} (h : Core.Whole i (.fin s c q)) : Core.signed s i.natAbs = i := by
  by_cases hi0 : i = 0
  · rw [hi0]; exact Core.signed_zero s
  · rw [Core.whole_sign h hi0]
    unfold Core.signed
    by_cases h : i < 0 <;> simp [h] <;> omega
/-- n / 2^k, rounded, is exact -/
theorem ratio_exact (s : Bool) {n k : Nat} (hn : n ≤ 2 ^ 53) (hk : k ≤ 1000) : ∃ c q, Core.roundRatio Core.b64 s n 1 (-(k : Int)) = .fin s c q ∧ n * 2 ^ (-(q + k)).toNat = c * 2 ^ (q + k).toNat := by
  by_cases h0 : n = 0
  · subst h0
    exact ⟨0, Core.b64.qmin, rfl, by simp⟩
  · obtain ⟨c', q', hfit, hv⟩ := Core.natFit Core.good_b64 Core.wide_b64 s (n := n) hn
    obtain ⟨f1, f2, f3, f4⟩ := hfit
    have e53 : 2 ^ Core.b64.p = 9007199254740992 := by decide
    have hmin : Core.b64.qmin = -1074 := by decide
    rw [e53] at f1
    rw [Nat.mul_one] at hv
    have hq : -53 < q' := by
      refine Int.lt_of_not_ge fun hle => ?_
      rw [show (q' - 0).toNat = 0 by omega, Nat.pow_zero, Nat.mul_one] at hv
      have h1 : 2 ^ 53 ≤ 2 ^ (0 - q').toNat := Nat.pow_le_pow_right (by decide) (by omega)
      have h2 : 1 * 2 ^ (0 - q').toNat ≤ n * 2 ^ (0 - q').toNat := Nat.mul_le_mul_right _ (by omega)
      have h3 : (2 : Nat) ^ 53 = 9007199254740992 := by decide
      omega
    have ht : Core.b64.tails ≤ c' := f4.resolve_left (by omega)
    have hfit' : Core.fits Core.b64 (.fin s c' (q' - k)) := ⟨by rw [e53]; exact f1, by omega, by omega, Or.inr ht⟩
    refine ⟨c', q' - k, Core.roundRatio_exact Core.good_b64 (by decide) hfit' ?_, ?_⟩
    · rw [Nat.mul_one, show (-(k : Int) - (q' - k)).toNat = (0 - q').toNat by omega, show (q' - k - -(k : Int)).toNat = (q' - 0).toNat by omega]
      exact hv
    · rw [show (-(q' - (k : Int) + k)).toNat = (0 - q').toNat by omega, show (q' - (k : Int) + k).toNat = (q' - 0).toNat by omega]
      exact hv
theorem whole_ratio (s : Bool) {i : Int} {k : Nat} (hs : Core.signed s i.natAbs = i) (hi : i.natAbs ≤ 2 ^ 53) (hk : k ≤ 1000) : Core.Whole i (sh k (Core.roundRatio Core.b64 s i.natAbs 1 (-(k : Int)))) := by
  obtain ⟨c, q, e, hv⟩ := ratio_exact s hi hk
  rw [e]
  show Core.signed s (c * 2 ^ (q + (k : Int)).toNat) = i * ((2 ^ (-(q + (k : Int))).toNat : Nat) : Int)
  rw [← hv, Core.signed_mul, hs]
/-- what i / 2^k rounds to -/
theorem round_eq {i : Int} {k : Nat} {s : Bool} {c : Nat} {q : Int} (h : Core.Whole i (sh k (.fin s c q))) : Core.round Core.b64 (.fin s c q) = Core.roundRatio Core.b64 s i.natAbs 1 (-(k : Int)) := by
  refine Core.roundRatio_congr (by decide) (by decide) ?_
  have h1 := Core.whole_natAbs (show Core.Whole i (.fin s c (q + (k : Int))) from h)
  rw [show (q - -(k : Int)).toNat = (q + (k : Int)).toNat by omega, show (-(k : Int) - q).toNat = (-(q + (k : Int))).toNat by omega, Nat.mul_one, Nat.mul_one]
  exact h1
theorem round_dy {i : Int} {k : Nat} {d : Core.Datum} (h : Core.Whole i (sh k d)) (hi : i.natAbs ≤ 2 ^ 53) (hk : k ≤ 1000) : Core.Whole i (sh k (Core.round Core.b64 d)) := by
  cases d with
  | nan => exact h.elim
  | inf => exact h.elim
  | fin s c q =>
    rw [round_eq h]
    exact whole_ratio s (sgn_whole (show Core.Whole i (.fin s c (q + (k : Int))) from h)) hi hk
theorem Dy.shape {i : Int} {k : Nat} {u : UInt64} (h : Dy i k u) : ∃ s c q, Core.val64 u = .fin s c q := by
  unfold Dy at h
  cases e : Core.val64 u with
  | nan => rw [e] at h; exact h.elim
  | inf s => rw [e] at h; exact h.elim
  | fin s c q => exact ⟨s, c, q, rfl⟩
theorem Dy.ne_nan {i : Int} {k : Nat} {u : UInt64} (h : Dy i k u) : Core.val64 u ≠ .nan := by
  obtain ⟨s, c, q, e⟩ := h.shape
  rw [e]; exact nofun
theorem Dy.noNaN {i : Int} {k : Nat} {u : UInt64} (h : Dy i k u) : NoNaN64 u := val64_no.mpr h.ne_nan
theorem Dy.of_int {i : Int} {u : UInt64} (h : Core.DInt i u) : Dy i 0 u := by
  unfold Dy; rw [sh_zero]; exact h
theorem Dy.add {i j : Int} {k : Nat} {a b : UInt64} (ha : Dy i k a) (hb : Dy j k b) (h : (i + j).natAbs ≤ 2 ^ 53) (hk : k ≤ 1000) : Dy (i + j) k (FP.dadd a b) := by
  unfold Dy
  rw [show Core.val64 (FP.dadd a b) = _ from Core.val64_dadd a b]
  exact round_dy (by rw [← sh_sum]; exact Core.whole_sum ha hb) h hk
theorem Dy.sub {i j : Int} {k : Nat} {a b : UInt64} (ha : Dy i k a) (hb : Dy j k b) (h : (i - j).natAbs ≤ 2 ^ 53) (hk : k ≤ 1000) : Dy (i - j) k (FP.dsub a b) := by
  unfold Dy
  rw [show Core.val64 (FP.dsub a b) = _ from Core.val64_dsub a b]
  exact round_dy (by rw [← sh_sum, ← sh_neg]; exact Core.whole_sum ha (Core.whole_negate hb)) h hk
theorem Dy.mul {i j : Int} {k l : Nat} {a b : UInt64} (ha : Dy i k a) (hb : Dy j l b) (h : (i * j).natAbs ≤ 2 ^ 53) (hk : k + l ≤ 1000) : Dy (i * j) (k + l) (FP.dmul a b) := by
  unfold Dy
  rw [show Core.val64 (FP.dmul a b) = _ from Core.val64_dmul a b]
  exact round_dy (by rw [Int.natCast_add, ← sh_prod]; exact Core.whole_product ha hb) h hk
theorem Dy.cmp {i j : Int} {k : Nat} {a b : UInt64} (ha : Dy i k a) (hb : Dy j k b) : FP.dcmp a b = some (compare i j) := by
  show Core.order (Core.val64 a) (Core.val64 b) = _
  rw [← sh_order k]
  exact Core.order_whole ha hb
theorem Dy.scale {i : Int} {k : Nat} {a : UInt64} (ha : Dy i k a) (j : Nat) : Dy (i * (2 ^ j : Nat)) (k + j) a := by
  obtain ⟨s, c, q, e⟩ := ha.shape
  unfold Dy at ha ⊢
  rw [e] at ha ⊢
  have h1 : Core.Whole ((2 ^ j : Nat) : Int) (.fin false 1 (j : Int)) := by
    show Core.signed false (1 * 2 ^ ((j : Int)).toNat) = ((2 ^ j : Nat) : Int) * ((2 ^ (-(j : Int)).toNat : Nat) : Int)
    rw [show (-(j : Int)).toNat = 0 by omega, show ((j : Int)).toNat = j by omega]
    simp [Core.signed]
  have h2 := Core.whole_product ha h1
  have e2 : Core.exactProduct (sh k (.fin s c q)) (.fin false 1 (j : Int)) = sh ((k + j : Nat) : Int) (.fin s c q) := by
    show Core.Datum.fin (s != false) (c * 1) (q + (k : Int) + (j : Int)) = Core.Datum.fin s c (q + ((k + j : Nat) : Int))
    rw [Nat.mul_one, show (s != false) = s by cases s <;> rfl, show q + (k : Int) + (j : Int) = q + ((k + j : Nat) : Int) by omega]
  rw [e2] at h2
  exact h2
theorem whole_unscale {i : Int} {s : Bool} {c j : Nat} {q : Int} (h : Core.Whole (i * ((2 ^ j : Nat) : Int)) (.fin s c (q + (j : Int)))) : Core.Whole i (.fin s c q) := by
  have h1 : Core.signed s (c * 2 ^ (q + (j : Int)).toNat) = i * ((2 ^ j : Nat) : Int) * ((2 ^ (-(q + (j : Int))).toNat : Nat) : Int) := h
  show Core.signed s (c * 2 ^ q.toNat) = i * ((2 ^ (-q).toNat : Nat) : Int)
  have p2 : ((2 ^ j * 2 ^ (-(q + (j : Int))).toNat : Nat) : Int) ≠ 0 := by
    have := Nat.mul_pos (Nat.two_pow_pos j) (Nat.two_pow_pos (-(q + (j : Int))).toNat); omega
  refine Int.eq_of_mul_eq_mul_right p2 ?_
  have hx : q.toNat + (j + (-(q + (j : Int))).toNat) = (q + (j : Int)).toNat + (-q).toNat := by omega
  calc Core.signed s (c * 2 ^ q.toNat) * ((2 ^ j * 2 ^ (-(q + (j : Int))).toNat : Nat) : Int)
      = Core.signed s (c * 2 ^ (q.toNat + (j + (-(q + (j : Int))).toNat))) := by
        rw [← Core.signed_mul, Nat.pow_add 2 q.toNat, Nat.pow_add 2 j, Nat.mul_assoc c]
    _ = Core.signed s (c * 2 ^ (q + (j : Int)).toNat * 2 ^ (-q).toNat) := by rw [hx, Nat.pow_add, Nat.mul_assoc c]
    _ = i * ((2 ^ j : Nat) : Int) * ((2 ^ (-(q + (j : Int))).toNat : Nat) : Int) * ((2 ^ (-q).toNat : Nat) : Int) := by rw [Core.signed_mul, h1]
    _ = i * ((2 ^ (-q).toNat : Nat) : Int) * ((2 ^ j * 2 ^ (-(q + (j : Int))).toNat : Nat) : Int) := by rw [Int.natCast_mul]; ac_rfl
theorem sh_unscale {i : Int} {k j : Nat} {d : Core.Datum} (h : Core.Whole (i * ((2 ^ j : Nat) : Int)) (sh ((k + j : Nat) : Int) d)) : Core.Whole i (sh k d) := by
  cases d with
  | nan => exact h.elim
  | inf => exact h.elim
  | fin s c q =>
    refine whole_unscale (j := j) ?_
    have e : q + ((k + j : Nat) : Int) = q + (k : Int) + (j : Int) := by omega
    have h' : Core.Whole (i * ((2 ^ j : Nat) : Int)) (.fin s c (q + ((k + j : Nat) : Int))) := h
    rw [e] at h'; exact h'
theorem Dy.unscale {i : Int} {k j : Nat} {u : UInt64} (h : Dy (i * ((2 ^ j : Nat) : Int)) (k + j) u) : Dy i k u := sh_unscale h
theorem Dy.mulTo {i j n : Int} {k l r t : Nat} {a b : UInt64} (ha : Dy i k a) (hb : Dy j l b) (hn : i * j = n * ((2 ^ t : Nat) : Int)) (hr : k + l = r + t) (h : n.natAbs ≤ 2 ^ 53) (hk : r ≤ 1000) : Dy n r (FP.dmul a b) := by
  unfold Dy
  rw [show Core.val64 (FP.dmul a b) = _ from Core.val64_dmul a b]
  refine round_dy (sh_unscale (j := t) ?_) h hk
  have h1 := Core.whole_product ha hb
  rw [sh_prod, hn, ← Int.natCast_add, hr] at h1
  exact h1
theorem Dy.cast {i i' : Int} {k k' : Nat} {a : UInt64} (ha : Dy i k a) (hi : i = i') (hk : k = k') : Dy i' k' a := by subst hi hk; exact ha
theorem Dy.unique {i : Int} {k : Nat} {a b : UInt64} (ha : Dy i k a) (hb : Dy i k b) (hi : i ≠ 0) : a = b := by
  obtain ⟨s, c, q, e⟩ := ha.shape
  obtain ⟨t, d, r, e'⟩ := hb.shape
  refine Core.val64_inj ha.ne_nan ?_
  have f1 := Core.round_of_fits Core.good_b64 (Core.val64_fits a)
  have f2 := Core.round_of_fits Core.good_b64 (Core.val64_fits b)
  have ha' := ha; have hb' := hb
  unfold Dy at ha' hb'
  rw [e] at ha' f1; rw [e'] at hb' f2
  rw [e, e', ← f1, ← f2, round_eq ha', round_eq hb', Core.whole_sign (show Core.Whole i (.fin s c (q + (k : Int))) from ha') hi, Core.whole_sign (show Core.Whole i (.fin t d (r + (k : Int))) from hb') hi]
/-- the quotient of two dyadics, the divisor positive, is the ratio rounded -/
theorem div_val {i j : Int} {k : Nat} {a b : UInt64} (ha : Dy i k a) (hb : Dy j 0 b) (hj : 0 < j) : ∃ s, Core.signed s i.natAbs = i ∧ Core.val64 (FP.ddiv a b) = Core.roundRatio Core.b64 s i.natAbs j.natAbs (-(k : Int)) := by
  obtain ⟨s, c, q, e⟩ := ha.shape
  obtain ⟨t, d, r, e'⟩ := hb.shape
  have ha' := ha; have hb' := hb
  unfold Dy at ha' hb'
  rw [e] at ha'; rw [e', sh_zero] at hb'
  have ha2 : Core.Whole i (.fin s c (q + (k : Int))) := ha'
  have ht : t = false := by rw [Core.whole_sign hb' (by omega)]; simp; omega
  have hd : d ≠ 0 := fun hd => by have := (Core.whole_zero hb').mp hd; omega
  refine ⟨s, sgn_whole ha2, ?_⟩
  rw [show Core.val64 (FP.ddiv a b) = _ from Core.val64_ddiv a b, e, e']
  show (if d = 0 then (if c = 0 then Core.Datum.nan else .inf (s != t)) else Core.roundRatio Core.b64 (s != t) c d (q - r)) = _
  rw [if_neg hd, ht, show (s != false) = s by cases s <;> rfl]
  refine Core.roundRatio_congr (by omega) (by omega) ?_
  have h1 := Core.whole_natAbs ha2
  have h2 := Core.whole_natAbs hb'
  rw [show (q - r - -(k : Int)) = (q + (k : Int)) - r by omega, show (-(k : Int) - (q - r)) = r - (q + (k : Int)) by omega]
  generalize q + (k : Int) = A at h1 ⊢
  generalize i.natAbs = I at h1 ⊢
  generalize j.natAbs = J at h2 ⊢
  refine Nat.eq_of_mul_eq_mul_right (Nat.mul_pos (Nat.two_pow_pos (-A).toNat) (Nat.two_pow_pos r.toNat)) ?_
  have hx : (A - r).toNat + ((-A).toNat + r.toNat) = A.toNat + (-r).toNat + (r - A).toNat := by omega
  calc c * J * 2 ^ (A - r).toNat * (2 ^ (-A).toNat * 2 ^ r.toNat)
      = c * J * 2 ^ ((A - r).toNat + ((-A).toNat + r.toNat)) := by rw [Nat.pow_add, Nat.pow_add]; ac_rfl
    _ = (c * 2 ^ A.toNat) * (J * 2 ^ (-r).toNat) * 2 ^ (r - A).toNat := by rw [hx, Nat.pow_add, Nat.pow_add]; ac_rfl
    _ = (I * 2 ^ (-A).toNat) * (d * 2 ^ r.toNat) * 2 ^ (r - A).toNat := by rw [h1, h2]
    _ = I * d * 2 ^ (r - A).toNat * (2 ^ (-A).toNat * 2 ^ r.toNat) := by ac_rfl
theorem Dy.div {i j m : Int} {k : Nat} {a b : UInt64} (ha : Dy i k a) (hb : Dy j 0 b) (hj : 0 < j) (hm : i = m * j) (h : m.natAbs ≤ 2 ^ 53) (hk : k ≤ 1000) : Dy m k (FP.ddiv a b) := by
  obtain ⟨s, hs, e⟩ := div_val ha hb hj
  unfold Dy
  have hn : i.natAbs = m.natAbs * j.natAbs := by rw [hm, Int.natAbs_mul]
  have e2 : Core.roundRatio Core.b64 s i.natAbs j.natAbs (-(k : Int)) = Core.roundRatio Core.b64 s m.natAbs 1 (-(k : Int)) := by
    refine Core.roundRatio_congr (by omega) (by decide) ?_
    rw [hn, Nat.mul_one]
  rw [e, e2]
  refine whole_ratio s ?_ h hk
  have h3 : Core.signed s i.natAbs = Core.signed s m.natAbs * j := by
    rw [hn, Core.signed_mul, show ((j.natAbs : Nat) : Int) = j by omega]
  rw [hs, hm] at h3
  exact (Int.eq_of_mul_eq_mul_right (by omega) h3).symm
/-- equal ratios, equally rounded -/
theorem div_cmp_eq {i j i' j' : Int} {k k' : Nat} {a b a' b' : UInt64} (ha : Dy i k a) (hb : Dy j 0 b) (hj : 0 < j) (ha' : Dy i' k' a') (hb' : Dy j' 0 b') (hj' : 0 < j') (hk : k ≤ 1000) (hk' : k' ≤ 1000)
    (h : i * j' * (2 ^ k' : Nat) = i' * j * (2 ^ k : Nat)) : FP.dcmp (FP.ddiv a b) (FP.ddiv a' b') = some .eq := by
  by_cases hi : i = 0
  · subst hi
    have hi' : i' = 0 := by
      rw [Int.zero_mul, Int.zero_mul] at h
      have p1 : ((2 ^ k : Nat) : Int) ≠ 0 := by have := Nat.two_pow_pos k; omega
      rcases Int.mul_eq_zero.mp h.symm with q | q
      · rcases Int.mul_eq_zero.mp q with q | q
        · exact q
        · omega
      · exact absurd q p1
    subst hi'
    have d1 := (ha.div hb hj (m := 0) (by omega) (by decide) hk).scale k'
    have d2 := (ha'.div hb' hj' (m := 0) (by omega) (by decide) hk').scale k
    have e2 : k' + k = k + k' := by omega
    rw [Dy.cmp d1 (d2.cast rfl e2)]
    simp [Core.compare_self_int]
  · obtain ⟨s, hs, e⟩ := div_val ha hb hj
    obtain ⟨s', hs', e'⟩ := div_val ha' hb' hj'
    have n1 := congrArg Int.natAbs h
    rw [Int.natAbs_mul, Int.natAbs_mul, Int.natAbs_mul, Int.natAbs_mul, Int.natAbs_natCast, Int.natAbs_natCast] at n1
    have p1 : (0 : Int) < ((2 ^ k : Nat) : Int) := by have := Nat.two_pow_pos k; omega
    have p2 : (0 : Int) < ((2 ^ k' : Nat) : Int) := by have := Nat.two_pow_pos k'; omega
    have hss : s = s' := by
      have q1 : (0 < i ↔ 0 < i') := by
        have a1 : (0 < i * j' * ((2 ^ k' : Nat) : Int)) ↔ 0 < i := by
          rw [Int.mul_assoc]; exact mpos (Int.mul_pos hj' p2)
        have a2 : (0 < i' * j * ((2 ^ k : Nat) : Int)) ↔ 0 < i' := by
          rw [Int.mul_assoc]; exact mpos (Int.mul_pos hj p1)
        rw [← a1, ← a2, h]
      have hi' : i' ≠ 0 := fun z => by
        rw [z, Int.zero_mul, Int.zero_mul] at h
        rcases Int.mul_eq_zero.mp h with q | q
        · rcases Int.mul_eq_zero.mp q with q | q
          · exact hi q
          · omega
        · omega
      unfold Core.signed at hs hs'
      cases s <;> cases s' <;> simp at hs hs' ⊢ <;> omega
    have ev : Core.val64 (FP.ddiv a b) = Core.val64 (FP.ddiv a' b') := by
      rw [e, e', hss]
      refine Core.roundRatio_congr (by omega) (by omega) ?_
      rcases Nat.le_total k k' with q | q
      · obtain ⟨z, rfl⟩ : ∃ z, k' = k + z := ⟨k' - k, by omega⟩
        rw [show (-(k : Int) - -((k + z : Nat) : Int)).toNat = z by omega, show (-((k + z : Nat) : Int) - -(k : Int)).toNat = 0 by omega, Nat.pow_zero, Nat.mul_one]
        rw [Nat.pow_add] at n1
        refine Nat.eq_of_mul_eq_mul_right (Nat.two_pow_pos k) ?_
        rw [← n1]; ac_rfl
      · obtain ⟨z, rfl⟩ : ∃ z, k = k' + z := ⟨k - k', by omega⟩
        rw [show (-((k' + z : Nat) : Int) - -(k' : Int)).toNat = 0 by omega, show (-(k' : Int) - -((k' + z : Nat) : Int)).toNat = z by omega, Nat.pow_zero, Nat.mul_one]
        rw [Nat.pow_add] at n1
        refine Nat.eq_of_mul_eq_mul_right (Nat.two_pow_pos k') ?_
        rw [n1]; ac_rfl
    have nn : Core.val64 (FP.ddiv a b) ≠ .nan := by rw [e]; exact Core.roundRatio_ne_nan _ _ _ _ _
    show Core.order (Core.val64 (FP.ddiv a b)) (Core.val64 (FP.ddiv a' b')) = _
    rw [← ev]
    exact Core.order_self nn
theorem div_noNaN {i j : Int} {k : Nat} {a b : UInt64} (ha : Dy i k a) (hb : Dy j 0 b) (hj : 0 < j) : NoNaN64 (FP.ddiv a b) := by
  obtain ⟨s, hs, e⟩ := div_val ha hb hj
  exact val64_no.mpr (by rw [e]; exact Core.roundRatio_ne_nan _ _ _ _ _)
/-- what dcmpl and dcmpg push -/
theorem cmpV_of (i j : Int) (o : ClassFile.CmpOp) : Op.cmpValue (some (compare i j)) o = if i < j then -1 else if i = j then 0 else 1 := by
  rw [Core.compare_ite]
  by_cases h1 : i < j
  · rw [if_pos h1, if_pos h1]; cases o <;> rfl
  · rw [if_neg h1, if_neg h1]
    by_cases h2 : i = j
    · rw [if_pos h2, if_pos h2]; cases o <;> rfl
    · rw [if_neg h2, if_neg h2]; cases o <;> rfl
theorem Dy.cmpV {i j : Int} {k : Nat} {a b : UInt64} (ha : Dy i k a) (hb : Dy j k b) (o : ClassFile.CmpOp) : Op.cmpValue (FP.dcmp a b) o = if i < j then -1 else if i = j then 0 else 1 := by
  rw [Dy.cmp ha hb]; exact cmpV_of i j o
theorem dy_zero : Dy 0 0 FP.dconst0 := by
  unfold Dy; rw [sh_zero, show Core.val64 FP.dconst0 = .fin false 0 Core.b64.qmin from Core.val64_dconst0]
  show Core.signed false (0 * _) = 0 * _
  rw [Nat.zero_mul, Int.zero_mul]; rfl
theorem dy_one : Dy 1 0 FP.dconst1 := by
  unfold Dy; rw [sh_zero, show Core.val64 FP.dconst1 = .fin false (2 ^ 52) (-52) from Core.val64_dconst1]
  show Core.signed false (2 ^ 52 * 2 ^ (-52 : Int).toNat) = 1 * ((2 ^ (-(-52 : Int)).toNat : Nat) : Int)
  decide
theorem Dy.of_bits {u : UInt64} {c : Nat} {q : Int} {i : Int} {k : Nat} (h : Core.val64 u = .fin false c q) (hi : ((c * 2 ^ (q + k).toNat : Nat) : Int) = i * ((2 ^ (-(q + k)).toNat : Nat) : Int)) : Dy i k u := by
  unfold Dy; rw [h]; exact hi
theorem Dy.maxz {i : Int} {u : UInt64} (h : Dy i 0 u) : Dy (max i 0) 0 (Jvm.Native.java_lang_Math.nans.pick64 true u FP.dconst0) := by
  have e := Dy.cmp h dy_zero
  unfold Jvm.Native.java_lang_Math.nans.pick64
  rw [e, Core.compare_ite]
  by_cases h1 : i < 0
  · rw [if_pos h1]; exact dy_zero.cast (by omega) rfl
  · rw [if_neg h1]
    by_cases h2 : i = 0
    · rw [if_pos h2]
      show Dy (max i 0) 0 (if ((u >>> 63 == 1) == true) = true then FP.dconst0 else u)
      split
      · exact dy_zero.cast (by omega) rfl
      · exact h.cast (by omega) rfl
    · rw [if_neg h2]; exact h.cast (by omega) rfl
theorem Dy.i2d (x : Int32) : Dy x.toInt 0 (FP.i2d x) := Dy.of_int (Core.i2d_int x)
theorem Dy.l2d {x : Int64} (h : x.toInt.natAbs ≤ 2 ^ 53) : Dy x.toInt 0 (FP.l2d x) := Dy.of_int (Core.l2d_int h)
end Jvm.OwnF
namespace Jvm.OwnF
open Sem ClassFile Op Lib Jvm.Stand Jvm.Free Jvm.LawKit Jvm.RoadKit
/-! Gar Z h a ty N f: at a there is an array of ty, N long, with f i at every place i < N. -/
def Gar (Z : State) (h : Heap) (a : Addr) (ty : FieldType) (N : Nat) (f : Nat → Value) : Prop := ∃ c : Cell, Arr Z h a c ty ∧ c.slots.size = N ∧ ∀ i, i < N → c.slots[i]? = some (f i)
section
variable {Z : State} {h h' : Heap} {a b : Addr} {ty : FieldType} {N : Nat} {f g : Nat → Value} {sl : Nat} {v : Value} {ws : List Addr}
theorem Gar.lt (F : Gar Z h a ty N f) : a < h.size := by obtain ⟨c, A, -⟩ := F; exact A.lt
theorem Gar.ext (F : Gar Z h a ty N f) (E : Ext h h') : Gar Z h' a ty N f := by obtain ⟨c, A, r⟩ := F; exact ⟨c, A.ext E, r⟩
theorem Gar.other (F : Gar Z h b ty N f) (W : Wr h h' a sl v) (q : b ≠ a) : Gar Z h' b ty N f := by obtain ⟨c, A, r⟩ := F; exact ⟨c, A.other W q, r⟩
theorem Gar.keep (F : Gar Z h a ty N f) (K : Keep h h' ws) (q : a ∉ ws) : Gar Z h' a ty N f := by obtain ⟨c, A, r⟩ := F; exact ⟨c, ⟨K.2.1 a c A.1 q, A.2⟩, r⟩
theorem Gar.congr (F : Gar Z h a ty N f) (q : ∀ i, i < N → f i = g i) : Gar Z h a ty N g := by obtain ⟨c, A, S, H⟩ := F; exact ⟨c, A, S, fun i hi => by rw [H i hi, q i hi]⟩
theorem Gar.len (F : Gar Z h a ty N f) {M : Nat} (q : N = M) : Gar Z h a ty M f := q ▸ F
theorem Gar.new {k : ClassId} {z : Int32} (A : Arr Z h a (newA k ty z) ty) : Gar Z h a ty z.toNatClampNeg (fun _ => defaultValue ty) :=
  ⟨_, A, sz_new _ _ _, fun i hi => by simp [newA, hi]⟩
theorem Gar.set (F : Gar Z h a ty N f) (W : Wr h h' a sl v) : Gar Z h' a ty N (fun i => if i = sl then v else f i) := by
  obtain ⟨c, A, S, H⟩ := F
  obtain ⟨c', q1, q2, q3, q4, q5, q6, q7⟩ := wr_at W A.1
  obtain ⟨r1, r2, r3⟩ := q7 rfl
  have A' := Arr.same W A
  have e : c' = c.setSlot sl v := r1
  refine ⟨c', by rw [e]; exact A', by rw [q4]; exact S, fun i hi => ?_⟩
  show c'.slots[i]? = some (if i = sl then v else f i)
  by_cases z : i = sl
  · rw [if_pos z, z]; exact r2
  · rw [if_neg z, q6 i z]; exact H i hi
theorem Gar.ne {N' : Nat} {f' : Nat → Value} {ty' : FieldType} (F : Gar Z h a ty N f) (G : Gar Z h b ty' N' f') (q : N ≠ N') : a ≠ b := fun e => by
  obtain ⟨c, A, S, -⟩ := F
  obtain ⟨c', A', S', -⟩ := G
  subst e
  have := A.1.symm.trans A'.1
  cases this
  omega
end
section
variable {p : Program} {l : Launch} {e : Env} {R : Room} {s : State} {m : MethodId} {args : Array Value} {below : List Frame} {meth : Method} {c : Code} {T : State} {locs : List Loc} {cells slots : Nat} {Z : State} {h : Heap} {a : Addr} {N : Nat} {f : Nat → Value}
theorem in_of {c : Cell} {j : Int32} (S : c.slots.size = N) (hj : ¬ j < 0) (hN : j.toNatClampNeg < N) : ¬ (j < 0 ∨ c.slots.size ≤ j.toNatClampNeg) := fun q => q.elim hj fun z => by omega
theorem ldD (X : Stand p l e R s m args below meth c T locs cells slots) (hx : p.tables.exec = Jvm.exec) (hZ : Z.Warmed39 s.vm) (eT : T.heap = h) (A : Gar Z h a .double N f) {j : Int32} (hj : ¬ j < 0) (hN : j.toNatClampNeg < N) {v : Value} (hv : f j.toNatClampNeg = v) {g : JFrame} (hg : g.method = m) {rest : List Value} (hs : g.stack = .int j :: .ref a :: rest) (hd : decode c.code g.pc = .ok (.daload, 1)) (target : State)
    (hr : Steps p.tables e below (T.setTop { g with pc := g.pc + 1, stack := v :: rest }) target) : Steps p.tables e below (T.setTop g) target := by
  obtain ⟨cl, Ar, S, H⟩ := A
  exact X.daload hx (by rw [eT]; exact Ar.1) (State.isArrayOf_alike hZ.alike Ar.2.1) Ar.2.2 (in_of S hj hN) (by rw [H _ hN, hv]) hg hs hd target hr
theorem ldI (X : Stand p l e R s m args below meth c T locs cells slots) (hx : p.tables.exec = Jvm.exec) (hZ : Z.Warmed39 s.vm) (eT : T.heap = h) (A : Gar Z h a .int N f) {j : Int32} (hj : ¬ j < 0) (hN : j.toNatClampNeg < N) {v : Value} (hv : f j.toNatClampNeg = v) {g : JFrame} (hg : g.method = m) {rest : List Value} (hs : g.stack = .int j :: .ref a :: rest) (hd : decode c.code g.pc = .ok (.iaload, 1)) (target : State)
    (hr : Steps p.tables e below (T.setTop { g with pc := g.pc + 1, stack := v :: rest }) target) : Steps p.tables e below (T.setTop g) target := by
  obtain ⟨cl, Ar, S, H⟩ := A
  exact X.iaload hx (by rw [eT]; exact Ar.1) (State.isArrayOf_alike hZ.alike Ar.2.1) Ar.2.2 (in_of S hj hN) (by rw [H _ hN, hv]) hg hs hd target hr
theorem lnG {ty : FieldType} (X : Stand p l e R s m args below meth c T locs cells slots) (hx : p.tables.exec = Jvm.exec) (hZ : Z.Warmed39 s.vm) (eT : T.heap = h) (A : Gar Z h a ty N f) {z : Int32} (hz : N.toInt32 = z) {g : JFrame} (hg : g.method = m) {rest : List Value} (hs : g.stack = .ref a :: rest) (hd : decode c.code g.pc = .ok (.arraylength, 1)) (target : State)
    (hr : Steps p.tables e below (T.setTop { g with pc := g.pc + 1, stack := .int z :: rest }) target) : Steps p.tables e below (T.setTop g) target := by
  obtain ⟨cl, Ar, S, H⟩ := A
  refine X.arraylength hx (by rw [eT]; exact Ar.1) (State.isArrayOf_alike hZ.alike Ar.2.1) hg hs hd target ?_
  rw [S, hz]; exact hr
theorem stDG (X : Stand p l e R s m args below meth c T locs cells slots) (hx : p.tables.exec = Jvm.exec) (hZ : Z.Warmed39 s.vm) (eT : T.heap = h) (A : Gar Z h a .double N f) {j : Int32} {x : UInt64} (hj : ¬ j < 0) (hN : j.toNatClampNeg < N) {g : JFrame} (hg : g.method = m) {rest : List Value} (hs : g.stack = .double x :: .int j :: .ref a :: rest) (hd : decode c.code g.pc = .ok (.dastore, 1)) :
    ∃ T' h', Stand p l e R s m args below meth c T' (locs ++ [⟨a, j.toNatClampNeg⟩]) cells slots ∧ T'.heap = h' ∧ Wr h h' a j.toNatClampNeg (.double x) ∧ ∀ target, Steps p.tables e below (T'.setTop { g with pc := g.pc + 1, stack := rest }) target → Steps p.tables e below (T.setTop g) target := by
  obtain ⟨cl, Ar, S, H⟩ := A
  exact stD X hx hZ eT Ar (in_of S hj hN) hg hs hd
theorem stIG (X : Stand p l e R s m args below meth c T locs cells slots) (hx : p.tables.exec = Jvm.exec) (hZ : Z.Warmed39 s.vm) (eT : T.heap = h) (A : Gar Z h a .int N f) {j : Int32} {x : Int32} (hj : ¬ j < 0) (hN : j.toNatClampNeg < N) {g : JFrame} (hg : g.method = m) {rest : List Value} (hs : g.stack = .int x :: .int j :: .ref a :: rest) (hd : decode c.code g.pc = .ok (.iastore, 1)) :
    ∃ T' h', Stand p l e R s m args below meth c T' (locs ++ [⟨a, j.toNatClampNeg⟩]) cells slots ∧ T'.heap = h' ∧ Wr h h' a j.toNatClampNeg (.int x) ∧ ∀ target, Steps p.tables e below (T'.setTop { g with pc := g.pc + 1, stack := rest }) target → Steps p.tables e below (T.setTop g) target := by
  obtain ⟨cl, Ar, S, H⟩ := A
  exact stI X hx hZ eT Ar (in_of S hj hN) hg hs hd
theorem clG {ty : FieldType} (X : Stand p l e R s m args below meth c T locs cells slots) (hx : p.tables.exec = Jvm.exec) (hZ : Z.Warmed39 s.vm) {a0 : Array Value} {own ad : String} {index : Nat} (hown : s.vm.findClass own = some m.cls)
    (w1 : (Cond.methodLink own index ⟨ad, "clone", "()Ljava/lang/Object;"⟩).before a0 Z = true) (w2 : (Cond.sameMethod ad "java/lang/Object" "clone" "()Ljava/lang/Object;").before a0 Z = true) (w3 : (Cond.native ⟨"java/lang/Object", "clone", "()Ljava/lang/Object;"⟩).before a0 Z = true)
    (w4 : (Cond.instanceMethod ⟨"java/lang/Object", "clone", "()Ljava/lang/Object;"⟩).before a0 Z = true) (w5 : (Cond.selects ad ⟨ad, "clone", "()Ljava/lang/Object;"⟩ ⟨"java/lang/Object", "clone", "()Ljava/lang/Object;"⟩).before a0 Z = true) (w6 : (Cond.castable ad "java/lang/Cloneable").before a0 Z = true)
    (eT : T.heap = h) (A : Gar Z h a ty N f) (E : Exa Z h a ad) (hfit : ∀ i, i < N → fits ty (f i) = true) {g : JFrame} (hg : g.method = m) (hsize : g.locals.size = c.maxLocals) {rest : List Value} (hst : g.stack = .ref a :: rest) (hd : decode c.code g.pc = .ok (.invokevirtual index, 3))
    (hf : 1 ≤ R.frames) {W cap : Nat} (hW : 2 * g.monitorRoom + (rest.map fun v => v.category).sum ≤ W) (hl : W + 14 ≤ R.locals) (hcap : N ≤ cap) (hc : cells + 1 ≤ R.cells) (hsl : slots + cap ≤ R.slots) :
    ∃ T' h', Stand p l e R s m args below meth c T' locs (cells + 1) (slots + cap) ∧ T'.heap = h' ∧ Ext h h' ∧ Gar Z h' h.size ty N f ∧ Exa Z h' h.size ad ∧
      ∀ target, Steps p.tables e below (T'.setTop { g with pc := g.pc + 3, stack := .ref h.size :: rest }) target → Steps p.tables e below (T.setTop g) target := by
  obtain ⟨cl, Ar, S, H⟩ := A
  have FC : FitC Z cl := fitC_of Ar fun i hi v hv => by rw [H i (by omega)] at hv; cases hv; exact hfit i (by omega)
  obtain ⟨T', h', X', e', ex, A', E', st⟩ := cloneA X hx hZ hown w1 w2 w3 w4 w5 w6 eT Ar E FC hg hsize hst hd hf hW hl (by rw [S]; exact hcap) hc hsl
  exact ⟨T', h', X', e', ex, ⟨cloneOf cl, A', S, H⟩, E', st⟩
end
end Jvm.OwnF
namespace Jvm.RoadKit
open Sem ClassFile Op Lib Jvm.Stand Jvm.Free Jvm.LawKit
section New
variable {p : Program} {l : Launch} {e : Env} {R : Room} {s : State} {m : MethodId} {args : Array Value} {below : List Frame} {meth : Method} {c : Code} {T : State} {locs : List Loc} {cells slots : Nat}
theorem retI (X : Stand p l e R s m args below meth c T locs cells slots) (hx : p.tables.exec = Jvm.exec) {pc : Nat} {Ls : Array Slot} {z : Int32} {rest : List Value} (hret : meth.sig.returnType = some .int) (hd : decode c.code pc = .ok (.ireturn, 1)) {fs : List Frame}
    (hl : ∀ (f : JFrame) (acts : List Action), f.method = m → f.locked = none → f.entered = [] → (doReturn e (T.setTop f) acts (some (.int z))).1 = T.setFrames fs) : Steps p.tables e below (T.setTop (mkF m pc Ls (.int z :: rest))) (T.setFrames fs) := by
  have hm' : T.vm.method? m = some meth := X.method'
  have hn : narrow .int (.int z) = .int z := rfl
  show Steps p.tables e below (T.setTop { method := m, pc := pc, locals := Ls, stack := _ :: rest, locked := none }) _
  jvm_step X.here [X.here.top, hx, hd, hm', hret, hn]
  first | (intro acts; rw [hl _ acts rfl rfl rfl]) | rw [hl _ _ rfl rfl rfl]
  exact Steps.refl _
theorem retD (X : Stand p l e R s m args below meth c T locs cells slots) (hx : p.tables.exec = Jvm.exec) {pc : Nat} {Ls : Array Slot} {z : UInt64} {rest : List Value} (hret : meth.sig.returnType = some .double) (hd : decode c.code pc = .ok (.dreturn, 1)) {fs : List Frame}
    (hl : ∀ (f : JFrame) (acts : List Action), f.method = m → f.locked = none → f.entered = [] → (doReturn e (T.setTop f) acts (some (.double z))).1 = T.setFrames fs) : Steps p.tables e below (T.setTop (mkF m pc Ls (.double z :: rest))) (T.setFrames fs) := by
  have hm' : T.vm.method? m = some meth := X.method'
  have hn : narrow .double (.double z) = .double z := rfl
  show Steps p.tables e below (T.setTop { method := m, pc := pc, locals := Ls, stack := _ :: rest, locked := none }) _
  jvm_step X.here [X.here.top, hx, hd, hm', hret, hn]
  first | (intro acts; rw [hl _ acts rfl rfl rfl]) | rw [hl _ _ rfl rfl rfl]
  exact Steps.refl _
theorem retB (X : Stand p l e R s m args below meth c T locs cells slots) (hx : p.tables.exec = Jvm.exec) {pc : Nat} {Ls : Array Slot} {z : Int32} {rest : List Value} (hret : meth.sig.returnType = some .boolean) (hz : z = 0 ∨ z = 1) (hd : decode c.code pc = .ok (.ireturn, 1)) {fs : List Frame}
    (hl : ∀ (f : JFrame) (acts : List Action), f.method = m → f.locked = none → f.entered = [] → (doReturn e (T.setTop f) acts (some (.int z))).1 = T.setFrames fs) : Steps p.tables e below (T.setTop (mkF m pc Ls (.int z :: rest))) (T.setFrames fs) := by
  have q : nar .boolean z = z := by rcases hz with rfl | rfl <;> rfl
  refine retN X hx hret (Or.inl rfl) hd ?_
  rw [q]; exact hl
end New
end Jvm.RoadKit
namespace Jvm.Pilot.@@N@@
open Jvm Jvm.ClassFile Sem Op Lib Jvm.Free Jvm.Stand Jvm.LawKit Jvm.RoadKit Bundle Jvm.Pilot.@@N@@.Jvm.D Jvm.OwnF Jvm.Free.Fl
theorem own_ln (x : Int32) : ((x &&& (3 : Int32)) + (1 : Int32)) = 1 ∨ ((x &&& (3 : Int32)) + (1 : Int32)) = 2 ∨ ((x &&& (3 : Int32)) + (1 : Int32)) = 3 ∨ ((x &&& (3 : Int32)) + (1 : Int32)) = 4 := by
  have h := c_mask x 3 2 (by decide) (by decide)
  have q : (x &&& (3 : Int32)).toInt = 0 ∨ (x &&& (3 : Int32)).toInt = 1 ∨ (x &&& (3 : Int32)).toInt = 2 ∨ (x &&& (3 : Int32)).toInt = 3 := by omega
  rcases q with q | q | q | q
  · rw [show (x &&& (3 : Int32)) = 0 from Int32.toInt_inj.mp q]; decide
  · rw [show (x &&& (3 : Int32)) = 1 from Int32.toInt_inj.mp q]; decide
  · rw [show (x &&& (3 : Int32)) = 2 from Int32.toInt_inj.mp q]; decide
  · rw [show (x &&& (3 : Int32)) = 3 from Int32.toInt_inj.mp q]; decide
def own_f (u0 u1 u2 u3 : UInt64) : Nat → UInt64
  | 0 => u0
  | 1 => u1
  | 2 => u2
  | _ => u3
def own_g (p2 p3 p4 p5 : Int32) : Nat → Int
  | 0 => (p2 &&& (255 : Int32)).toInt
  | 1 => (p3 &&& (255 : Int32)).toInt
  | 2 => (p4 &&& (255 : Int32)).toInt
  | _ => (p5 &&& (255 : Int32)).toInt
theorem own_fg (p2 p3 p4 p5 : Int32) (i : Nat) : Dy (own_g p2 p3 p4 p5 i) 0 (own_f (FP.i2d (p2 &&& (255 : Int32))) (FP.i2d (p3 &&& (255 : Int32))) (FP.i2d (p4 &&& (255 : Int32))) (FP.i2d (p5 &&& (255 : Int32))) i) := by
  match i with
  | 0 => exact Dy.i2d _
  | 1 => exact Dy.i2d _
  | 2 => exact Dy.i2d _
  | n + 3 => exact Dy.i2d _



theorem d1_0 : decode prog_60_method_4_code 0 = .ok (.iconst 0, 1) := by decide +kernel
theorem d1_1 : decode prog_60_method_4_code 1 = .ok (.istore_n 1, 1) := by decide +kernel
theorem d1_2 : decode prog_60_method_4_code 2 = .ok (.iconst 1, 1) := by decide +kernel
theorem d1_3 : decode prog_60_method_4_code 3 = .ok (.istore_n 2, 1) := by decide +kernel
theorem d1_4 : decode prog_60_method_4_code 4 = .ok (.iload_n 2, 1) := by decide +kernel
theorem d1_5 : decode prog_60_method_4_code 5 = .ok (.aload_n 0, 1) := by decide +kernel
theorem d1_6 : decode prog_60_method_4_code 6 = .ok (.arraylength, 1) := by decide +kernel
theorem d1_7 : decode prog_60_method_4_code 7 = .ok (.if_icmp .ge 21, 3) := by decide +kernel
theorem d1_10 : decode prog_60_method_4_code 10 = .ok (.aload_n 0, 1) := by decide +kernel
theorem d1_11 : decode prog_60_method_4_code 11 = .ok (.iload_n 2, 1) := by decide +kernel
theorem d1_12 : decode prog_60_method_4_code 12 = .ok (.daload, 1) := by decide +kernel
theorem d1_13 : decode prog_60_method_4_code 13 = .ok (.aload_n 0, 1) := by decide +kernel
theorem d1_14 : decode prog_60_method_4_code 14 = .ok (.iload_n 1, 1) := by decide +kernel
theorem d1_15 : decode prog_60_method_4_code 15 = .ok (.daload, 1) := by decide +kernel
theorem d1_16 : decode prog_60_method_4_code 16 = .ok (.dcmp .l, 1) := by decide +kernel
theorem d1_17 : decode prog_60_method_4_code 17 = .ok (.ifCond .le 5, 3) := by decide +kernel
theorem d1_20 : decode prog_60_method_4_code 20 = .ok (.iload_n 2, 1) := by decide +kernel
theorem d1_21 : decode prog_60_method_4_code 21 = .ok (.istore_n 1, 1) := by decide +kernel
theorem d1_22 : decode prog_60_method_4_code 22 = .ok (.iinc 2 1, 3) := by decide +kernel
theorem d1_25 : decode prog_60_method_4_code 25 = .ok (.goto (-21), 3) := by decide +kernel
theorem d1_28 : decode prog_60_method_4_code 28 = .ok (.iload_n 1, 1) := by decide +kernel
theorem d1_29 : decode prog_60_method_4_code 29 = .ok (.ireturn, 1) := by decide +kernel
theorem d2_0 : decode method_2_code 0 = .ok (.iload_n 0, 1) := by decide +kernel
theorem d2_1 : decode method_2_code 1 = .ok (.iload_n 1, 1) := by decide +kernel
theorem d2_2 : decode method_2_code 2 = .ok (.if_icmp .lt 5, 3) := by decide +kernel
theorem d2_5 : decode method_2_code 5 = .ok (.iconst 1, 1) := by decide +kernel
theorem d2_6 : decode method_2_code 6 = .ok (.ireturn, 1) := by decide +kernel
theorem d2_7 : decode method_2_code 7 = .ok (.dload_n 3, 1) := by decide +kernel
theorem d2_8 : decode method_2_code 8 = .ok (.dload 5, 2) := by decide +kernel
theorem d2_10 : decode method_2_code 10 = .ok (.dcmp .l, 1) := by decide +kernel
theorem d2_11 : decode method_2_code 11 = .ok (.ifCond .le 5, 3) := by decide +kernel
theorem d2_16 : decode method_2_code 16 = .ok (.iload_n 0, 1) := by decide +kernel
theorem d2_17 : decode method_2_code 17 = .ok (.iload_n 2, 1) := by decide +kernel
theorem d2_18 : decode method_2_code 18 = .ok (.if_icmp .ge 12, 3) := by decide +kernel
theorem d2_21 : decode method_2_code 21 = .ok (.dload_n 3, 1) := by decide +kernel
theorem d2_22 : decode method_2_code 22 = .ok (.dload 5, 2) := by decide +kernel
theorem d2_24 : decode method_2_code 24 = .ok (.dcmp .l, 1) := by decide +kernel
theorem d2_25 : decode method_2_code 25 = .ok (.ifCond .ne 5, 3) := by decide +kernel
theorem d2_30 : decode method_2_code 30 = .ok (.iconst 1, 1) := by decide +kernel
theorem d2_31 : decode method_2_code 31 = .ok (.ireturn, 1) := by decide +kernel
theorem pd_0 : parseMethodDescriptor "([D)I" = some ⟨[(.array .double)], some .int⟩ := by decide +kernel
theorem pd_1 : parseMethodDescriptor "(IIIDD)Z" = some ⟨[.int, .int, .int, .double, .double], some .boolean⟩ := by decide +kernel
theorem pn_1 : plainName "com/example/orrery/orrery/learning/Model" = true := by first | (simp [plainName, overriddenIn]; done) | decide +kernel
theorem ef_1 (m : MethodId) (x0 : Addr) : entryFrame m #[(.ref x0)] 3 = mkF m 0 #[.val (.ref x0), .unset, .unset] [] := by first | (simp [entryFrame, mkF, argsToLocals, Value.category]; done) | rfl
def Qm1 (Z : State) (a1 : Addr) (z : Int32) (f : Nat → UInt64) (g : Nat → Int) (h0 : Heap) (n0 : Nat) (v : Option Value) (h : Heap) (L : List Loc) : Prop := ∃ r : Int32, v = some (.int r) ∧ 0 ≤ r.toInt ∧ r.toInt < z.toInt ∧ (∀ i : Nat, (i : Int) < z.toInt → g i ≤ g r.toNatClampNeg) ∧ (∀ i : Nat, (i : Int) < r.toInt → g i < g r.toNatClampNeg) ∧ Fr n0 L ∧ h = h0
set_option maxRecDepth 65536 in
set_option maxHeartbeats 40000000 in
theorem rm1 (l : Launch) (Z : State) (a0 : Array Value) (hw : ∀ d ∈ tables_1, d.before a0 Z = true) (ws : List Jvm.Cond) (a1 : Addr) (z : Int32) (f : Nat → UInt64) (g : Nat → Int) (h0 : Heap) (n0 : Nat) (Z0 : n0 ≤ h0.size) (G : Gar Z h0 a1 .double z.toNatClampNeg (fun i => .double (f i))) (hz : 1 ≤ z.toInt) (hy : ∀ i : Nat, (i : Int) < z.toInt → Dy (g i) 0 (f i)) :
    MetFree l (⟨"com/example/orrery/orrery/learning/Model", "predictedClass", "([D)I"⟩ : MethodName) (head1 (Jvm.Cond.code (⟨"com/example/orrery/orrery/learning/Model", "predictedClass", "([D)I"⟩ : MethodName) prog_60_method_4_code 3 (some .int) :: ws) ({ frames := 0, cells := 0, slots := 0, locals := 0 } : Room)) (fun a U => a = #[(.ref a1)] ∧ Z.Warmed39 U.vm ∧ U.heap = h0) (fun _ _ _ _ _ => True) (fun _ U o U' => ∃ v L, o = .returned v ∧ Qm1 Z a1 z f g h0 n0 v U'.heap L ∧ FrameEnd U o U' L ({ frames := 0, cells := 0, slots := 0, locals := 0 } : Room).cells ({ frames := 0, cells := 0, slots := 0, locals := 0 } : Room).slots) := by
  refine MetFree.of_bodySF (plainFor_of_name pn_1) hisR ?_
  intro p e s m args below meth c s₁ Bd hml0 hP hK
  obtain ⟨rfl, hZ, hh⟩ := hP
  have hx := Bd.exec
  have hby := Bd.bytes
  have hml : c.maxLocals = 3 := hml0
  have hown : s.vm.findClass "com/example/orrery/orrery/learning/Model" = some m.cls := findClass_of_methodNamed Bd.named
  have hnm := (name_of_methodNamed Bd.named Bd.method).1
  have X0 : Stand p l e ({ frames := 0, cells := 0, slots := 0, locals := 0 } : Room) s m #[(.ref a1)] below meth c s₁ [] 0 0 := Stand.of_body Bd
  have e0 : s₁.heap = h0 := by rw [← hh, Bd.state]; rfl
  have N0 := Fr.nil n0
  have pre0 : ∀ t, Steps p.tables e below (s₁.setTop (mkF m 0 #[.val (.ref a1), .unset, .unset] [])) t → Steps p.tables e below (s₁.setTop (entryFrame m #[(.ref a1)] 3)) t := fun t k => castTop (ef_1 m a1) k
  obtain ⟨S0, hS0⟩ : ∃ z, z = s₁.setTop (mkF m 0 #[.val (.ref a1), .unset, .unset] []) := ⟨_, rfl⟩
  have r0 : Steps p.tables e below S0 (s₁.setTop (mkF m 0 #[.val (.ref a1), .unset, .unset] [])) := by rw [hS0]; exact Steps.refl _
  have hzn : ¬ z < 0 := fun q => by have := Int32.lt_iff_toInt_lt.mp q; rw [show (0 : Int32).toInt = 0 by decide] at this; omega
  have loop : ∀ (k : Nat) (b cc : Int32), 0 ≤ b.toInt → b.toInt < cc.toInt → cc.toInt ≤ z.toInt → z.toInt - cc.toInt = (k : Int) → (∀ i : Nat, (i : Int) < cc.toInt → g i ≤ g b.toNatClampNeg) → (∀ i : Nat, (i : Int) < b.toInt → g i < g b.toNatClampNeg) → ∃ r z2 : Int32, 0 ≤ r.toInt ∧ r.toInt < z.toInt ∧ (∀ i : Nat, (i : Int) < z.toInt → g i ≤ g r.toNatClampNeg) ∧ (∀ i : Nat, (i : Int) < r.toInt → g i < g r.toNatClampNeg) ∧ Steps p.tables e below (s₁.setTop (mkF m 4 #[.val (.ref a1), .val (.int b), .val (.int cc)] [])) (s₁.setTop (mkF m 28 #[.val (.ref a1), .val (.int r), .val (.int z2)] [])) := by
    intro k
    induction k with
    | zero =>
      intro b cc hbn hbc hcz hk i1 i2
      have q0 : Steps p.tables e below (s₁.setTop (mkF m 4 #[.val (.ref a1), .val (.int b), .val (.int cc)] [])) (s₁.setTop (mkF m 4 #[.val (.ref a1), .val (.int b), .val (.int cc)] [])) := Steps.refl _
      have hge : ¬ cc < z := fun q => by have := Int32.lt_iff_toInt_lt.mp q; omega
      have r1 : Steps p.tables e below (s₁.setTop (mkF m 4 #[.val (.ref a1), .val (.int b), .val (.int cc)] [])) (s₁.setTop (mkF m 28 #[.val (.ref a1), .val (.int b), .val (.int cc)] [])) := by
        refine q0.trans ?_
        show Steps p.tables e below (s₁.setTop (mkF m 4 #[.val (.ref a1), .val (.int b), .val (.int cc)] [])) _
        refine XS.iloadN X0.here hx rfl (hb hby d1_4) rfl ?_
        show Steps p.tables e below (s₁.setTop (mkF m 5 #[.val (.ref a1), .val (.int b), .val (.int cc)] [(.int cc)])) _
        refine XS.aloadN X0.here hx rfl (hb hby d1_5) rfl rfl ?_
        show Steps p.tables e below (s₁.setTop (mkF m 6 #[.val (.ref a1), .val (.int b), .val (.int cc)] [(.ref a1), (.int cc)])) _
        refine lnG X0 hx hZ e0 G (z := z) (back32 hzn).1 (g := (mkF m 6 #[.val (.ref a1), .val (.int b), .val (.int cc)] [(.ref a1), (.int cc)])) rfl rfl (hb hby d1_6) _ ?_
        show Steps p.tables e below (s₁.setTop (mkF m 7 #[.val (.ref a1), .val (.int b), .val (.int cc)] [(.int z), (.int cc)])) _
        refine XS.icmpYes X0.here hx rfl (pc0 := 7) (pc' := 28) rfl (hb hby d1_7) rfl (flt hge).2.1 (by decide) (by decide) ?_
        exact Steps.refl _
      exact ⟨b, cc, hbn, by omega, fun i hi => i1 i (by omega), i2, r1⟩
    | succ k ih =>
      intro b cc hbn hbc hcz hk i1 i2
      have q0 : Steps p.tables e below (s₁.setTop (mkF m 4 #[.val (.ref a1), .val (.int b), .val (.int cc)] [])) (s₁.setTop (mkF m 4 #[.val (.ref a1), .val (.int b), .val (.int cc)] [])) := Steps.refl _
      have hlt : cc < z := Int32.lt_iff_toInt_lt.mpr (by omega)
      have hc0 : ¬ cc < 0 := fun q => by have := Int32.lt_iff_toInt_lt.mp q; rw [show (0 : Int32).toInt = 0 by decide] at this; omega
      have hb0 : ¬ b < 0 := fun q => by have := Int32.lt_iff_toInt_lt.mp q; rw [show (0 : Int32).toInt = 0 by decide] at this; omega
      have tc : (cc.toNatClampNeg : Int) = cc.toInt := Int.toNat_of_nonneg (by omega)
      have tb : (b.toNatClampNeg : Int) = b.toInt := Int.toNat_of_nonneg hbn
      have tz : (z.toNatClampNeg : Int) = z.toInt := Int.toNat_of_nonneg (by omega)
      have yc := hy cc.toNatClampNeg (by omega)
      have yb := hy b.toNatClampNeg (by omega)
      have hcm := yc.cmpV yb .l
      have e1 : (cc + (1 : Int32)).toInt = cc.toInt + 1 := by have q := c_iadd cc 1; have := rng32 (cc + (1 : Int32)); have := rng32 z; rw [show (1 : Int32).toInt = 1 by decide] at q; omega
      have r2 : Steps p.tables e below (s₁.setTop (mkF m 4 #[.val (.ref a1), .val (.int b), .val (.int cc)] [])) (s₁.setTop (mkF m 17 #[.val (.ref a1), .val (.int b), .val (.int cc)] [(.int (cmpValue (FP.dcmp (f cc.toNatClampNeg) (f b.toNatClampNeg)) .l))])) := by
        refine q0.trans ?_
        show Steps p.tables e below (s₁.setTop (mkF m 4 #[.val (.ref a1), .val (.int b), .val (.int cc)] [])) _
        refine XS.iloadN X0.here hx rfl (hb hby d1_4) rfl ?_
        show Steps p.tables e below (s₁.setTop (mkF m 5 #[.val (.ref a1), .val (.int b), .val (.int cc)] [(.int cc)])) _
        refine XS.aloadN X0.here hx rfl (hb hby d1_5) rfl rfl ?_
        show Steps p.tables e below (s₁.setTop (mkF m 6 #[.val (.ref a1), .val (.int b), .val (.int cc)] [(.ref a1), (.int cc)])) _
        refine lnG X0 hx hZ e0 G (z := z) (back32 hzn).1 (g := (mkF m 6 #[.val (.ref a1), .val (.int b), .val (.int cc)] [(.ref a1), (.int cc)])) rfl rfl (hb hby d1_6) _ ?_
        show Steps p.tables e below (s₁.setTop (mkF m 7 #[.val (.ref a1), .val (.int b), .val (.int cc)] [(.int z), (.int cc)])) _
        refine XS.icmpNo X0.here hx rfl (hb hby d1_7) rfl (tlt hlt).2.1 ?_
        show Steps p.tables e below (s₁.setTop (mkF m 10 #[.val (.ref a1), .val (.int b), .val (.int cc)] [])) _
        refine XS.aloadN X0.here hx rfl (hb hby d1_10) rfl rfl ?_
        show Steps p.tables e below (s₁.setTop (mkF m 11 #[.val (.ref a1), .val (.int b), .val (.int cc)] [(.ref a1)])) _
        refine XS.iloadN X0.here hx rfl (hb hby d1_11) rfl ?_
        show Steps p.tables e below (s₁.setTop (mkF m 12 #[.val (.ref a1), .val (.int b), .val (.int cc)] [(.int cc), (.ref a1)])) _
        refine ldD X0 hx hZ e0 G (j := cc) hc0 (by omega) (v := (.double (f cc.toNatClampNeg))) rfl (g := (mkF m 12 #[.val (.ref a1), .val (.int b), .val (.int cc)] [(.int cc), (.ref a1)])) rfl rfl (hb hby d1_12) _ ?_
        show Steps p.tables e below (s₁.setTop (mkF m 13 #[.val (.ref a1), .val (.int b), .val (.int cc)] [(.double (f cc.toNatClampNeg))])) _
        refine XS.aloadN X0.here hx rfl (hb hby d1_13) rfl rfl ?_
        show Steps p.tables e below (s₁.setTop (mkF m 14 #[.val (.ref a1), .val (.int b), .val (.int cc)] [(.ref a1), (.double (f cc.toNatClampNeg))])) _
        refine XS.iloadN X0.here hx rfl (hb hby d1_14) rfl ?_
        show Steps p.tables e below (s₁.setTop (mkF m 15 #[.val (.ref a1), .val (.int b), .val (.int cc)] [(.int b), (.ref a1), (.double (f cc.toNatClampNeg))])) _
        refine ldD X0 hx hZ e0 G (j := b) hb0 (by omega) (v := (.double (f b.toNatClampNeg))) rfl (g := (mkF m 15 #[.val (.ref a1), .val (.int b), .val (.int cc)] [(.int b), (.ref a1), (.double (f cc.toNatClampNeg))])) rfl rfl (hb hby d1_15) _ ?_
        show Steps p.tables e below (s₁.setTop (mkF m 16 #[.val (.ref a1), .val (.int b), .val (.int cc)] [(.double (f b.toNatClampNeg)), (.double (f cc.toNatClampNeg))])) _
        refine XS.dcmpS X0.here hx rfl (hb hby d1_16) rfl rfl ?_
        exact Steps.refl _
      by_cases hP : (0 : Int32) < (cmpValue (FP.dcmp (f cc.toNatClampNeg) (f b.toNatClampNeg)) .l)
      · skip
        have r3 : Steps p.tables e below (s₁.setTop (mkF m 4 #[.val (.ref a1), .val (.int b), .val (.int cc)] [])) (s₁.setTop (mkF m 4 #[.val (.ref a1), .val (.int cc), .val (.int (cc + (1 : Int32)))] [])) := by
          refine r2.trans ?_
          show Steps p.tables e below (s₁.setTop (mkF m 17 #[.val (.ref a1), .val (.int b), .val (.int cc)] [(.int (cmpValue (FP.dcmp (f cc.toNatClampNeg) (f b.toNatClampNeg)) .l))])) _
          refine XS.ifNo X0.here hx rfl (hb hby d1_17) rfl ((if0 _ _).trans (tlt hP).2.2.2) ?_
          show Steps p.tables e below (s₁.setTop (mkF m 20 #[.val (.ref a1), .val (.int b), .val (.int cc)] [])) _
          refine XS.iloadN X0.here hx rfl (hb hby d1_20) rfl ?_
          show Steps p.tables e below (s₁.setTop (mkF m 21 #[.val (.ref a1), .val (.int b), .val (.int cc)] [(.int cc)])) _
          refine XS.istoreN X0.here hx rfl (hb hby d1_21) rfl (l' := #[.val (.ref a1), .val (.int cc), .val (.int cc)]) rfl ?_
          show Steps p.tables e below (s₁.setTop (mkF m 22 #[.val (.ref a1), .val (.int cc), .val (.int cc)] [])) _
          refine XS.iinc X0.here hx rfl (hb hby d1_22) rfl (l' := #[.val (.ref a1), .val (.int cc), .val (.int (cc + (1 : Int32)))]) rfl ?_
          show Steps p.tables e below (s₁.setTop (mkF m 25 #[.val (.ref a1), .val (.int cc), .val (.int (cc + (1 : Int32)))] [])) _
          refine XS.goto X0.here hx rfl (pc0 := 25) (pc' := 4) rfl (hb hby d1_25) (by decide) (by decide) ?_
          exact Steps.refl _
        have hgt : g b.toNatClampNeg < g cc.toNatClampNeg := by
          rw [hcm] at hP
          refine Int.lt_of_not_ge fun q => ?_
          by_cases q1 : g cc.toNatClampNeg < g b.toNatClampNeg
          · rw [if_pos q1] at hP; exact absurd hP (by decide)
          · rw [if_neg q1, if_pos (by omega)] at hP; exact absurd hP (by decide)
        obtain ⟨r, z2, j1, j2, j3, j4, j5⟩ := ih cc (cc + (1 : Int32)) (by omega) (by omega) (by omega) (by omega) (fun i hi => by
            by_cases q : (i : Int) < cc.toInt
            · have := i1 i q; omega
            · have : i = cc.toNatClampNeg := by omega
              rw [this]; exact Int.le_refl _) (fun i hi => by have := i1 i hi; omega)
        exact ⟨r, z2, j1, j2, j3, j4, r3.trans j5⟩
      · skip
        have r4 : Steps p.tables e below (s₁.setTop (mkF m 4 #[.val (.ref a1), .val (.int b), .val (.int cc)] [])) (s₁.setTop (mkF m 4 #[.val (.ref a1), .val (.int b), .val (.int (cc + (1 : Int32)))] [])) := by
          refine r2.trans ?_
          show Steps p.tables e below (s₁.setTop (mkF m 17 #[.val (.ref a1), .val (.int b), .val (.int cc)] [(.int (cmpValue (FP.dcmp (f cc.toNatClampNeg) (f b.toNatClampNeg)) .l))])) _
          refine XS.ifYes X0.here hx rfl (pc0 := 17) (pc' := 22) rfl (hb hby d1_17) rfl ((if0 _ _).trans (flt hP).2.2.2) (by decide) (by decide) ?_
          show Steps p.tables e below (s₁.setTop (mkF m 22 #[.val (.ref a1), .val (.int b), .val (.int cc)] [])) _
          refine XS.iinc X0.here hx rfl (hb hby d1_22) rfl (l' := #[.val (.ref a1), .val (.int b), .val (.int (cc + (1 : Int32)))]) rfl ?_
          show Steps p.tables e below (s₁.setTop (mkF m 25 #[.val (.ref a1), .val (.int b), .val (.int (cc + (1 : Int32)))] [])) _
          refine XS.goto X0.here hx rfl (pc0 := 25) (pc' := 4) rfl (hb hby d1_25) (by decide) (by decide) ?_
          exact Steps.refl _
        have hle : g cc.toNatClampNeg ≤ g b.toNatClampNeg := by
          rw [hcm] at hP
          refine Int.le_of_not_gt fun q => hP ?_
          rw [if_neg (by omega), if_neg (by omega)]; decide
        obtain ⟨r, z2, j1, j2, j3, j4, j5⟩ := ih b (cc + (1 : Int32)) hbn (by omega) (by omega) (by omega) (fun i hi => by
            by_cases q : (i : Int) < cc.toInt
            · exact i1 i q
            · have : i = cc.toNatClampNeg := by omega
              rw [this]; exact hle) i2
        exact ⟨r, z2, j1, j2, j3, j4, r4.trans j5⟩
  have r5 : Steps p.tables e below S0 (s₁.setTop (mkF m 4 #[.val (.ref a1), .val (.int (0 : Int32)), .val (.int (1 : Int32))] [])) := by
    refine r0.trans ?_
    show Steps p.tables e below (s₁.setTop (mkF m 0 #[.val (.ref a1), .unset, .unset] [])) _
    refine XS.iconst X0.here hx rfl (hb hby d1_0) ?_
    show Steps p.tables e below (s₁.setTop (mkF m 1 #[.val (.ref a1), .unset, .unset] [(.int (0 : Int32))])) _
    refine XS.istoreN X0.here hx rfl (hb hby d1_1) rfl (l' := #[.val (.ref a1), .val (.int (0 : Int32)), .unset]) rfl ?_
    show Steps p.tables e below (s₁.setTop (mkF m 2 #[.val (.ref a1), .val (.int (0 : Int32)), .unset] [])) _
    refine XS.iconst X0.here hx rfl (hb hby d1_2) ?_
    show Steps p.tables e below (s₁.setTop (mkF m 3 #[.val (.ref a1), .val (.int (0 : Int32)), .unset] [(.int (1 : Int32))])) _
    refine XS.istoreN X0.here hx rfl (hb hby d1_3) rfl (l' := #[.val (.ref a1), .val (.int (0 : Int32)), .val (.int (1 : Int32))]) rfl ?_
    exact Steps.refl _
  have rz := rng32 z
  obtain ⟨r, z2, j1, j2, j3, j4, j5⟩ := loop (z.toInt - 1).toNat 0 1 (by decide) (by decide) (by rw [show (1 : Int32).toInt = 1 by decide]; omega) (by rw [show (1 : Int32).toInt = 1 by decide]; omega) (fun i hi => by
      rw [show (1 : Int32).toInt = 1 by decide] at hi
      have : i = 0 := by omega
      rw [this]; exact Int.le_refl _) (fun i hi => by rw [show (0 : Int32).toInt = 0 by decide] at hi; omega)
  have r6 : Steps p.tables e below S0 (s₁.setTop (mkF m 28 #[.val (.ref a1), .val (.int r), .val (.int z2)] [])) := r5.trans j5
  have r7 : Steps p.tables e below S0 (s₁.setTop (mkF m 29 #[.val (.ref a1), .val (.int r), .val (.int z2)] [(.int r)])) := by
    refine r6.trans ?_
    show Steps p.tables e below (s₁.setTop (mkF m 28 #[.val (.ref a1), .val (.int r), .val (.int z2)] [])) _
    refine XS.iloadN X0.here hx rfl (hb hby d1_28) rfl ?_
    exact Steps.refl _
  obtain ⟨fs, hr, hrun, hended, hW, hsame⟩ := X0.leave (v := some (.int r)) (fun h => by rw [Bd.returns] at h; cases h)
  refine ⟨_, _, pre0 _ ?_, hrun, hended, _, _, rfl, ?_, ⟨_, rfl⟩, hW, hsame.mono (by decide) (by decide)⟩
  · rw [← hS0]
    refine r7.trans ?_
    show Steps p.tables e below (s₁.setTop (mkF m 29 #[.val (.ref a1), .val (.int r), .val (.int z2)] [(.int r)])) _
    exact retI X0 hx Bd.returns (hb hby d1_29) hr
  · exact ⟨r, rfl, j1, j2, j3, j4, N0, e0⟩
theorem pn_2 : plainName "com/example/orrery/orrery/learning/ModelPredictedClassPinLaw" = true := by first | (simp [plainName, overriddenIn]; done) | decide +kernel
theorem ef_2 (m : MethodId) (x0 : Int32) (x1 : Int32) (x2 : Int32) (x3 : UInt64) (x4 : UInt64) : entryFrame m #[(.int x0), (.int x1), (.int x2), (.double x3), (.double x4)] 7 = mkF m 0 #[.val (.int x0), .val (.int x1), .val (.int x2), .val (.double x3), .second, .val (.double x4), .second] [] := by first | (simp [entryFrame, mkF, argsToLocals, Value.category]; done) | rfl
def Qm2 (Z : State) (p1 : Int32) (p2 : Int32) (p3 : Int32) (u : UInt64) (bb : UInt64) (gu : Int) (gb : Int) (h0 : Heap) (n0 : Nat) (v : Option Value) (h : Heap) (L : List Loc) : Prop := v = some (.int 1) ∧ Fr n0 L ∧ h = h0
set_option maxRecDepth 65536 in
set_option maxHeartbeats 40000000 in
theorem rm2 (l : Launch) (Z : State) (a0 : Array Value) (hw : ∀ d ∈ tables_1, d.before a0 Z = true) (ws : List Jvm.Cond) (p1 : Int32) (p2 : Int32) (p3 : Int32) (u : UInt64) (bb : UInt64) (gu : Int) (gb : Int) (h0 : Heap) (n0 : Nat) (Z0 : n0 ≤ h0.size) (yu : Dy gu 0 u) (yb : Dy gb 0 bb) (hf : p1 < p2 → gu ≤ gb ∧ (p1 < p3 → gu ≠ gb)) :
    MetFree l (⟨"com/example/orrery/orrery/learning/ModelPredictedClassPinLaw", "fits", "(IIIDD)Z"⟩ : MethodName) (head1 (Jvm.Cond.code (⟨"com/example/orrery/orrery/learning/ModelPredictedClassPinLaw", "fits", "(IIIDD)Z"⟩ : MethodName) method_2_code 7 (some .boolean) :: ws) ({ frames := 0, cells := 0, slots := 0, locals := 0 } : Room)) (fun a U => a = #[(.int p1), (.int p2), (.int p3), (.double u), (.double bb)] ∧ Z.Warmed39 U.vm ∧ U.heap = h0) (fun _ _ _ _ _ => True) (fun _ U o U' => ∃ v L, o = .returned v ∧ Qm2 Z p1 p2 p3 u bb gu gb h0 n0 v U'.heap L ∧ FrameEnd U o U' L ({ frames := 0, cells := 0, slots := 0, locals := 0 } : Room).cells ({ frames := 0, cells := 0, slots := 0, locals := 0 } : Room).slots) := by
  refine MetFree.of_bodySF (plainFor_of_name pn_2) hisR ?_
  intro p e s m args below meth c s₁ Bd hml0 hP hK
  obtain ⟨rfl, hZ, hh⟩ := hP
  have hx := Bd.exec
  have hby := Bd.bytes
  have hml : c.maxLocals = 7 := hml0
  have hown : s.vm.findClass "com/example/orrery/orrery/learning/ModelPredictedClassPinLaw" = some m.cls := findClass_of_methodNamed Bd.named
  have hnm := (name_of_methodNamed Bd.named Bd.method).1
  have X0 : Stand p l e ({ frames := 0, cells := 0, slots := 0, locals := 0 } : Room) s m #[(.int p1), (.int p2), (.int p3), (.double u), (.double bb)] below meth c s₁ [] 0 0 := Stand.of_body Bd
  have e0 : s₁.heap = h0 := by rw [← hh, Bd.state]; rfl
  have N0 := Fr.nil n0
  have pre0 : ∀ t, Steps p.tables e below (s₁.setTop (mkF m 0 #[.val (.int p1), .val (.int p2), .val (.int p3), .val (.double u), .second, .val (.double bb), .second] [])) t → Steps p.tables e below (s₁.setTop (entryFrame m #[(.int p1), (.int p2), (.int p3), (.double u), (.double bb)] 7)) t := fun t k => castTop (ef_2 m p1 p2 p3 u bb) k
  obtain ⟨S0, hS0⟩ : ∃ z, z = s₁.setTop (mkF m 0 #[.val (.int p1), .val (.int p2), .val (.int p3), .val (.double u), .second, .val (.double bb), .second] []) := ⟨_, rfl⟩
  have r0 : Steps p.tables e below S0 (s₁.setTop (mkF m 0 #[.val (.int p1), .val (.int p2), .val (.int p3), .val (.double u), .second, .val (.double bb), .second] [])) := by rw [hS0]; exact Steps.refl _
  have hcm := yu.cmpV yb .l
  have r8 : Steps p.tables e below S0 (s₁.setTop (mkF m 2 #[.val (.int p1), .val (.int p2), .val (.int p3), .val (.double u), .second, .val (.double bb), .second] [(.int p2), (.int p1)])) := by
    refine r0.trans ?_
    show Steps p.tables e below (s₁.setTop (mkF m 0 #[.val (.int p1), .val (.int p2), .val (.int p3), .val (.double u), .second, .val (.double bb), .second] [])) _
    refine XS.iloadN X0.here hx rfl (hb hby d2_0) rfl ?_
    show Steps p.tables e below (s₁.setTop (mkF m 1 #[.val (.int p1), .val (.int p2), .val (.int p3), .val (.double u), .second, .val (.double bb), .second] [(.int p1)])) _
    refine XS.iloadN X0.here hx rfl (hb hby d2_1) rfl ?_
    exact Steps.refl _
  by_cases hlt : p1 < p2
  · skip
    obtain ⟨hf1, hf2⟩ := hf hlt
    have hle : ¬ (0 : Int32) < cmpValue (FP.dcmp u bb) .l := by
      rw [hcm]
      by_cases q : gu < gb
      · rw [if_pos q]; decide
      · rw [if_neg q, if_pos (by omega)]; decide
    have r9 : Steps p.tables e below S0 (s₁.setTop (mkF m 18 #[.val (.int p1), .val (.int p2), .val (.int p3), .val (.double u), .second, .val (.double bb), .second] [(.int p3), (.int p1)])) := by
      refine r8.trans ?_
      show Steps p.tables e below (s₁.setTop (mkF m 2 #[.val (.int p1), .val (.int p2), .val (.int p3), .val (.double u), .second, .val (.double bb), .second] [(.int p2), (.int p1)])) _
      refine XS.icmpYes X0.here hx rfl (pc0 := 2) (pc' := 7) rfl (hb hby d2_2) rfl (tlt hlt).1 (by decide) (by decide) ?_
      show Steps p.tables e below (s₁.setTop (mkF m 7 #[.val (.int p1), .val (.int p2), .val (.int p3), .val (.double u), .second, .val (.double bb), .second] [])) _
      refine XS.dloadN X0.here hx rfl (hb hby d2_7) rfl ?_
      show Steps p.tables e below (s₁.setTop (mkF m 8 #[.val (.int p1), .val (.int p2), .val (.int p3), .val (.double u), .second, .val (.double bb), .second] [(.double u)])) _
      refine XS.dload X0.here hx rfl (hb hby d2_8) rfl ?_
      show Steps p.tables e below (s₁.setTop (mkF m 10 #[.val (.int p1), .val (.int p2), .val (.int p3), .val (.double u), .second, .val (.double bb), .second] [(.double bb), (.double u)])) _
      refine XS.dcmpS X0.here hx rfl (hb hby d2_10) rfl rfl ?_
      show Steps p.tables e below (s₁.setTop (mkF m 11 #[.val (.int p1), .val (.int p2), .val (.int p3), .val (.double u), .second, .val (.double bb), .second] [(.int (cmpValue (FP.dcmp u bb) .l))])) _
      refine XS.ifYes X0.here hx rfl (pc0 := 11) (pc' := 16) rfl (hb hby d2_11) rfl ((if0 _ _).trans (flt hle).2.2.2) (by decide) (by decide) ?_
      show Steps p.tables e below (s₁.setTop (mkF m 16 #[.val (.int p1), .val (.int p2), .val (.int p3), .val (.double u), .second, .val (.double bb), .second] [])) _
      refine XS.iloadN X0.here hx rfl (hb hby d2_16) rfl ?_
      show Steps p.tables e below (s₁.setTop (mkF m 17 #[.val (.int p1), .val (.int p2), .val (.int p3), .val (.double u), .second, .val (.double bb), .second] [(.int p1)])) _
      refine XS.iloadN X0.here hx rfl (hb hby d2_17) rfl ?_
      exact Steps.refl _
    by_cases hr3 : p1 < p3
    · skip
      have hne : ¬ cmpValue (FP.dcmp u bb) .l = (0 : Int32) := by
        have q1 := hf2 hr3
        rw [hcm, if_pos (by omega)]; decide
      have r10 : Steps p.tables e below S0 (s₁.setTop (mkF m 31 #[.val (.int p1), .val (.int p2), .val (.int p3), .val (.double u), .second, .val (.double bb), .second] [(.int (1 : Int32))])) := by
        refine r9.trans ?_
        show Steps p.tables e below (s₁.setTop (mkF m 18 #[.val (.int p1), .val (.int p2), .val (.int p3), .val (.double u), .second, .val (.double bb), .second] [(.int p3), (.int p1)])) _
        refine XS.icmpNo X0.here hx rfl (hb hby d2_18) rfl (tlt hr3).2.1 ?_
        show Steps p.tables e below (s₁.setTop (mkF m 21 #[.val (.int p1), .val (.int p2), .val (.int p3), .val (.double u), .second, .val (.double bb), .second] [])) _
        refine XS.dloadN X0.here hx rfl (hb hby d2_21) rfl ?_
        show Steps p.tables e below (s₁.setTop (mkF m 22 #[.val (.int p1), .val (.int p2), .val (.int p3), .val (.double u), .second, .val (.double bb), .second] [(.double u)])) _
        refine XS.dload X0.here hx rfl (hb hby d2_22) rfl ?_
        show Steps p.tables e below (s₁.setTop (mkF m 24 #[.val (.int p1), .val (.int p2), .val (.int p3), .val (.double u), .second, .val (.double bb), .second] [(.double bb), (.double u)])) _
        refine XS.dcmpS X0.here hx rfl (hb hby d2_24) rfl rfl ?_
        show Steps p.tables e below (s₁.setTop (mkF m 25 #[.val (.int p1), .val (.int p2), .val (.int p3), .val (.double u), .second, .val (.double bb), .second] [(.int (cmpValue (FP.dcmp u bb) .l))])) _
        refine XS.ifYes X0.here hx rfl (pc0 := 25) (pc' := 30) rfl (hb hby d2_25) rfl ((if0 _ _).trans (feq hne).2) (by decide) (by decide) ?_
        show Steps p.tables e below (s₁.setTop (mkF m 30 #[.val (.int p1), .val (.int p2), .val (.int p3), .val (.double u), .second, .val (.double bb), .second] [])) _
        refine XS.iconst X0.here hx rfl (hb hby d2_30) ?_
        exact Steps.refl _
      obtain ⟨fs, hr, hrun, hended, hW, hsame⟩ := X0.leave (v := some (.int (1 : Int32))) (fun h => by rw [Bd.returns] at h; cases h)
      refine ⟨_, _, pre0 _ ?_, hrun, hended, _, _, rfl, ?_, ⟨_, rfl⟩, hW, hsame.mono (by decide) (by decide)⟩
      · rw [← hS0]
        refine r10.trans ?_
        show Steps p.tables e below (s₁.setTop (mkF m 31 #[.val (.int p1), .val (.int p2), .val (.int p3), .val (.double u), .second, .val (.double bb), .second] [(.int (1 : Int32))])) _
        exact retB X0 hx Bd.returns (by first | exact Or.inr rfl | exact Or.inl rfl | (split <;> simp)) (hb hby d2_31) hr
      · exact ⟨rfl, N0, e0⟩
    · skip
      have r11 : Steps p.tables e below S0 (s₁.setTop (mkF m 31 #[.val (.int p1), .val (.int p2), .val (.int p3), .val (.double u), .second, .val (.double bb), .second] [(.int (1 : Int32))])) := by
        refine r9.trans ?_
        show Steps p.tables e below (s₁.setTop (mkF m 18 #[.val (.int p1), .val (.int p2), .val (.int p3), .val (.double u), .second, .val (.double bb), .second] [(.int p3), (.int p1)])) _
        refine XS.icmpYes X0.here hx rfl (pc0 := 18) (pc' := 30) rfl (hb hby d2_18) rfl (flt hr3).2.1 (by decide) (by decide) ?_
        show Steps p.tables e below (s₁.setTop (mkF m 30 #[.val (.int p1), .val (.int p2), .val (.int p3), .val (.double u), .second, .val (.double bb), .second] [])) _
        refine XS.iconst X0.here hx rfl (hb hby d2_30) ?_
        exact Steps.refl _
      obtain ⟨fs, hr, hrun, hended, hW, hsame⟩ := X0.leave (v := some (.int (1 : Int32))) (fun h => by rw [Bd.returns] at h; cases h)
      refine ⟨_, _, pre0 _ ?_, hrun, hended, _, _, rfl, ?_, ⟨_, rfl⟩, hW, hsame.mono (by decide) (by decide)⟩
      · rw [← hS0]
        refine r11.trans ?_
        show Steps p.tables e below (s₁.setTop (mkF m 31 #[.val (.int p1), .val (.int p2), .val (.int p3), .val (.double u), .second, .val (.double bb), .second] [(.int (1 : Int32))])) _
        exact retB X0 hx Bd.returns (by first | exact Or.inr rfl | exact Or.inl rfl | (split <;> simp)) (hb hby d2_31) hr
      · exact ⟨rfl, N0, e0⟩
  · skip
    have r12 : Steps p.tables e below S0 (s₁.setTop (mkF m 6 #[.val (.int p1), .val (.int p2), .val (.int p3), .val (.double u), .second, .val (.double bb), .second] [(.int (1 : Int32))])) := by
      refine r8.trans ?_
      show Steps p.tables e below (s₁.setTop (mkF m 2 #[.val (.int p1), .val (.int p2), .val (.int p3), .val (.double u), .second, .val (.double bb), .second] [(.int p2), (.int p1)])) _
      refine XS.icmpNo X0.here hx rfl (hb hby d2_2) rfl (flt hlt).1 ?_
      show Steps p.tables e below (s₁.setTop (mkF m 5 #[.val (.int p1), .val (.int p2), .val (.int p3), .val (.double u), .second, .val (.double bb), .second] [])) _
      refine XS.iconst X0.here hx rfl (hb hby d2_5) ?_
      exact Steps.refl _
    obtain ⟨fs, hr, hrun, hended, hW, hsame⟩ := X0.leave (v := some (.int (1 : Int32))) (fun h => by rw [Bd.returns] at h; cases h)
    refine ⟨_, _, pre0 _ ?_, hrun, hended, _, _, rfl, ?_, ⟨_, rfl⟩, hW, hsame.mono (by decide) (by decide)⟩
    · rw [← hS0]
      refine r12.trans ?_
      show Steps p.tables e below (s₁.setTop (mkF m 6 #[.val (.int p1), .val (.int p2), .val (.int p3), .val (.double u), .second, .val (.double bb), .second] [(.int (1 : Int32))])) _
      exact retB X0 hx Bd.returns (by first | exact Or.inr rfl | exact Or.inl rfl | (split <;> simp)) (hb hby d2_6) hr
    · exact ⟨rfl, N0, e0⟩
theorem pn_0 : plainName "com/example/orrery/orrery/learning/ModelPredictedClassPinLaw" = true := by first | (simp [plainName, overriddenIn]; done) | decide +kernel
theorem ef_0 (m : MethodId) (x0 : Int32) (x1 : Int32) (x2 : Int32) (x3 : Int32) (x4 : Int32) : entryFrame m #[(.int x0), (.int x1), (.int x2), (.int x3), (.int x4)] maxLocals = mkF m 0 #[.val (.int x0), .val (.int x1), .val (.int x2), .val (.int x3), .val (.int x4), .unset, .unset, .unset, .unset, .unset, .unset, .unset, .unset, .unset, .unset, .unset, .unset, .unset] [] := by first | (simp [entryFrame, mkF, argsToLocals, Value.category, maxLocals]; done) | rfl
def Qm0 (Z : State) (p1 : Int32) (p2 : Int32) (p3 : Int32) (p4 : Int32) (p5 : Int32)  (h0 : Heap) (n0 : Nat) (v : Option Value) (h : Heap) (L : List Loc) : Prop := v = some (.int 1) ∧ Fr n0 L
set_option maxRecDepth 65536 in
set_option maxHeartbeats 40000000 in
theorem rm0 (l : Launch) (Z : State) (a0 : Array Value) (hw : ∀ d ∈ tables_1, d.before a0 Z = true) (ws : List Jvm.Cond) (p1 : Int32) (p2 : Int32) (p3 : Int32) (p4 : Int32) (p5 : Int32)  (h0 : Heap) (n0 : Nat) (Z0 : n0 ≤ h0.size)  :
    MetFree l x (head1 (Jvm.Cond.code x code maxLocals ret :: ws) room_1) (fun a U => a = #[(.int p1), (.int p2), (.int p3), (.int p4), (.int p5)] ∧ Z.Warmed39 U.vm ∧ U.heap = h0) (fun _ _ _ _ _ => True) (fun _ U o U' => ∃ v L, o = .returned v ∧ Qm0 Z p1 p2 p3 p4 p5 h0 n0 v U'.heap L ∧ FrameEnd U o U' L room_1.cells room_1.slots) := by
  refine MetFree.of_bodySF (plainFor_of_name pn_0) hisR ?_
  intro p e s m args below meth c s₁ Bd hml0 hP hK
  obtain ⟨rfl, hZ, hh⟩ := hP
  have hx := Bd.exec
  have hby := Bd.bytes
  have hml : c.maxLocals = 18 := hml0
  have hown : s.vm.findClass "com/example/orrery/orrery/learning/ModelPredictedClassPinLaw" = some m.cls := findClass_of_methodNamed Bd.named
  have hnm := (name_of_methodNamed Bd.named Bd.method).1
  have X0 : Stand p l e room_1 s m #[(.int p1), (.int p2), (.int p3), (.int p4), (.int p5)] below meth c s₁ [] 0 0 := Stand.of_body Bd
  have e0 : s₁.heap = h0 := by rw [← hh, Bd.state]; rfl
  have N0 := Fr.nil n0
  have pre0 : ∀ t, Steps p.tables e below (s₁.setTop (mkF m 0 #[.val (.int p1), .val (.int p2), .val (.int p3), .val (.int p4), .val (.int p5), .unset, .unset, .unset, .unset, .unset, .unset, .unset, .unset, .unset, .unset, .unset, .unset, .unset] [])) t → Steps p.tables e below (s₁.setTop (entryFrame m #[(.int p1), (.int p2), (.int p3), (.int p4), (.int p5)] maxLocals)) t := fun t k => castTop (ef_0 m p1 p2 p3 p4 p5) k
  obtain ⟨S0, hS0⟩ : ∃ z, z = s₁.setTop (mkF m 0 #[.val (.int p1), .val (.int p2), .val (.int p3), .val (.int p4), .val (.int p5), .unset, .unset, .unset, .unset, .unset, .unset, .unset, .unset, .unset, .unset, .unset, .unset, .unset] []) := ⟨_, rfl⟩
  have r0 : Steps p.tables e below S0 (s₁.setTop (mkF m 0 #[.val (.int p1), .val (.int p2), .val (.int p3), .val (.int p4), .val (.int p5), .unset, .unset, .unset, .unset, .unset, .unset, .unset, .unset, .unset, .unset, .unset, .unset, .unset] [])) := by rw [hS0]; exact Steps.refl _
  have r13 : Steps p.tables e below S0 (s₁.setTop (mkF m 42 #[.val (.int p1), .val (.int p2), .val (.int p3), .val (.int p4), .val (.int p5), .val (.int ((p1 &&& (3 : Int32)) + (1 : Int32))), .val (.double (FP.i2d (p2 &&& (255 : Int32)))), .second, .val (.double (FP.i2d (p3 &&& (255 : Int32)))), .second, .val (.double (FP.i2d (p4 &&& (255 : Int32)))), .second, .val (.double (FP.i2d (p5 &&& (255 : Int32)))), .second, .unset, .unset, .unset, .unset] [(.int ((p1 &&& (3 : Int32)) + (1 : Int32)))])) := by
    refine r0.trans ?_
    show Steps p.tables e below (s₁.setTop (mkF m 0 #[.val (.int p1), .val (.int p2), .val (.int p3), .val (.int p4), .val (.int p5), .unset, .unset, .unset, .unset, .unset, .unset, .unset, .unset, .unset, .unset, .unset, .unset, .unset] [])) _
    refine XS.iloadN X0.here hx rfl (hb hby at_0) rfl ?_
    show Steps p.tables e below (s₁.setTop (mkF m 1 #[.val (.int p1), .val (.int p2), .val (.int p3), .val (.int p4), .val (.int p5), .unset, .unset, .unset, .unset, .unset, .unset, .unset, .unset, .unset, .unset, .unset, .unset, .unset] [(.int p1)])) _
    refine XS.iconst X0.here hx rfl (hb hby at_1) ?_
    show Steps p.tables e below (s₁.setTop (mkF m 2 #[.val (.int p1), .val (.int p2), .val (.int p3), .val (.int p4), .val (.int p5), .unset, .unset, .unset, .unset, .unset, .unset, .unset, .unset, .unset, .unset, .unset, .unset, .unset] [(.int (3 : Int32)), (.int p1)])) _
    refine XS.iand X0.here hx rfl (hb hby at_2) rfl ?_
    show Steps p.tables e below (s₁.setTop (mkF m 3 #[.val (.int p1), .val (.int p2), .val (.int p3), .val (.int p4), .val (.int p5), .unset, .unset, .unset, .unset, .unset, .unset, .unset, .unset, .unset, .unset, .unset, .unset, .unset] [(.int (p1 &&& (3 : Int32)))])) _
    refine XS.iconst X0.here hx rfl (hb hby at_3) ?_
    show Steps p.tables e below (s₁.setTop (mkF m 4 #[.val (.int p1), .val (.int p2), .val (.int p3), .val (.int p4), .val (.int p5), .unset, .unset, .unset, .unset, .unset, .unset, .unset, .unset, .unset, .unset, .unset, .unset, .unset] [(.int (1 : Int32)), (.int (p1 &&& (3 : Int32)))])) _
    refine XS.iadd X0.here hx rfl (hb hby at_4) rfl ?_
    show Steps p.tables e below (s₁.setTop (mkF m 5 #[.val (.int p1), .val (.int p2), .val (.int p3), .val (.int p4), .val (.int p5), .unset, .unset, .unset, .unset, .unset, .unset, .unset, .unset, .unset, .unset, .unset, .unset, .unset] [(.int ((p1 &&& (3 : Int32)) + (1 : Int32)))])) _
    refine XS.istore X0.here hx rfl (hb hby at_5) rfl (l' := #[.val (.int p1), .val (.int p2), .val (.int p3), .val (.int p4), .val (.int p5), .val (.int ((p1 &&& (3 : Int32)) + (1 : Int32))), .unset, .unset, .unset, .unset, .unset, .unset, .unset, .unset, .unset, .unset, .unset, .unset]) rfl ?_
    show Steps p.tables e below (s₁.setTop (mkF m 7 #[.val (.int p1), .val (.int p2), .val (.int p3), .val (.int p4), .val (.int p5), .val (.int ((p1 &&& (3 : Int32)) + (1 : Int32))), .unset, .unset, .unset, .unset, .unset, .unset, .unset, .unset, .unset, .unset, .unset, .unset] [])) _
    refine XS.iloadN X0.here hx rfl (hb hby at_7) rfl ?_
    show Steps p.tables e below (s₁.setTop (mkF m 8 #[.val (.int p1), .val (.int p2), .val (.int p3), .val (.int p4), .val (.int p5), .val (.int ((p1 &&& (3 : Int32)) + (1 : Int32))), .unset, .unset, .unset, .unset, .unset, .unset, .unset, .unset, .unset, .unset, .unset, .unset] [(.int p2)])) _
    refine XS.sipush X0.here hx rfl (hb hby at_8) ?_
    show Steps p.tables e below (s₁.setTop (mkF m 11 #[.val (.int p1), .val (.int p2), .val (.int p3), .val (.int p4), .val (.int p5), .val (.int ((p1 &&& (3 : Int32)) + (1 : Int32))), .unset, .unset, .unset, .unset, .unset, .unset, .unset, .unset, .unset, .unset, .unset, .unset] [(.int (255 : Int32)), (.int p2)])) _
    refine XS.iand X0.here hx rfl (hb hby at_11) rfl ?_
    show Steps p.tables e below (s₁.setTop (mkF m 12 #[.val (.int p1), .val (.int p2), .val (.int p3), .val (.int p4), .val (.int p5), .val (.int ((p1 &&& (3 : Int32)) + (1 : Int32))), .unset, .unset, .unset, .unset, .unset, .unset, .unset, .unset, .unset, .unset, .unset, .unset] [(.int (p2 &&& (255 : Int32)))])) _
    refine XS.i2dS X0.here hx rfl (hb hby at_12) rfl rfl ?_
    show Steps p.tables e below (s₁.setTop (mkF m 13 #[.val (.int p1), .val (.int p2), .val (.int p3), .val (.int p4), .val (.int p5), .val (.int ((p1 &&& (3 : Int32)) + (1 : Int32))), .unset, .unset, .unset, .unset, .unset, .unset, .unset, .unset, .unset, .unset, .unset, .unset] [(.double (FP.i2d (p2 &&& (255 : Int32))))])) _
    refine XS.dstore X0.here hx rfl (hb hby at_13) rfl (l' := #[.val (.int p1), .val (.int p2), .val (.int p3), .val (.int p4), .val (.int p5), .val (.int ((p1 &&& (3 : Int32)) + (1 : Int32))), .val (.double (FP.i2d (p2 &&& (255 : Int32)))), .second, .unset, .unset, .unset, .unset, .unset, .unset, .unset, .unset, .unset, .unset]) rfl ?_
    show Steps p.tables e below (s₁.setTop (mkF m 15 #[.val (.int p1), .val (.int p2), .val (.int p3), .val (.int p4), .val (.int p5), .val (.int ((p1 &&& (3 : Int32)) + (1 : Int32))), .val (.double (FP.i2d (p2 &&& (255 : Int32)))), .second, .unset, .unset, .unset, .unset, .unset, .unset, .unset, .unset, .unset, .unset] [])) _
    refine XS.iloadN X0.here hx rfl (hb hby at_15) rfl ?_
    show Steps p.tables e below (s₁.setTop (mkF m 16 #[.val (.int p1), .val (.int p2), .val (.int p3), .val (.int p4), .val (.int p5), .val (.int ((p1 &&& (3 : Int32)) + (1 : Int32))), .val (.double (FP.i2d (p2 &&& (255 : Int32)))), .second, .unset, .unset, .unset, .unset, .unset, .unset, .unset, .unset, .unset, .unset] [(.int p3)])) _
    refine XS.sipush X0.here hx rfl (hb hby at_16) ?_
    show Steps p.tables e below (s₁.setTop (mkF m 19 #[.val (.int p1), .val (.int p2), .val (.int p3), .val (.int p4), .val (.int p5), .val (.int ((p1 &&& (3 : Int32)) + (1 : Int32))), .val (.double (FP.i2d (p2 &&& (255 : Int32)))), .second, .unset, .unset, .unset, .unset, .unset, .unset, .unset, .unset, .unset, .unset] [(.int (255 : Int32)), (.int p3)])) _
    refine XS.iand X0.here hx rfl (hb hby at_19) rfl ?_
    show Steps p.tables e below (s₁.setTop (mkF m 20 #[.val (.int p1), .val (.int p2), .val (.int p3), .val (.int p4), .val (.int p5), .val (.int ((p1 &&& (3 : Int32)) + (1 : Int32))), .val (.double (FP.i2d (p2 &&& (255 : Int32)))), .second, .unset, .unset, .unset, .unset, .unset, .unset, .unset, .unset, .unset, .unset] [(.int (p3 &&& (255 : Int32)))])) _
    refine XS.i2dS X0.here hx rfl (hb hby at_20) rfl rfl ?_
    show Steps p.tables e below (s₁.setTop (mkF m 21 #[.val (.int p1), .val (.int p2), .val (.int p3), .val (.int p4), .val (.int p5), .val (.int ((p1 &&& (3 : Int32)) + (1 : Int32))), .val (.double (FP.i2d (p2 &&& (255 : Int32)))), .second, .unset, .unset, .unset, .unset, .unset, .unset, .unset, .unset, .unset, .unset] [(.double (FP.i2d (p3 &&& (255 : Int32))))])) _
    refine XS.dstore X0.here hx rfl (hb hby at_21) rfl (l' := #[.val (.int p1), .val (.int p2), .val (.int p3), .val (.int p4), .val (.int p5), .val (.int ((p1 &&& (3 : Int32)) + (1 : Int32))), .val (.double (FP.i2d (p2 &&& (255 : Int32)))), .second, .val (.double (FP.i2d (p3 &&& (255 : Int32)))), .second, .unset, .unset, .unset, .unset, .unset, .unset, .unset, .unset]) rfl ?_
    show Steps p.tables e below (s₁.setTop (mkF m 23 #[.val (.int p1), .val (.int p2), .val (.int p3), .val (.int p4), .val (.int p5), .val (.int ((p1 &&& (3 : Int32)) + (1 : Int32))), .val (.double (FP.i2d (p2 &&& (255 : Int32)))), .second, .val (.double (FP.i2d (p3 &&& (255 : Int32)))), .second, .unset, .unset, .unset, .unset, .unset, .unset, .unset, .unset] [])) _
    refine XS.iloadN X0.here hx rfl (hb hby at_23) rfl ?_
    show Steps p.tables e below (s₁.setTop (mkF m 24 #[.val (.int p1), .val (.int p2), .val (.int p3), .val (.int p4), .val (.int p5), .val (.int ((p1 &&& (3 : Int32)) + (1 : Int32))), .val (.double (FP.i2d (p2 &&& (255 : Int32)))), .second, .val (.double (FP.i2d (p3 &&& (255 : Int32)))), .second, .unset, .unset, .unset, .unset, .unset, .unset, .unset, .unset] [(.int p4)])) _
    refine XS.sipush X0.here hx rfl (hb hby at_24) ?_
    show Steps p.tables e below (s₁.setTop (mkF m 27 #[.val (.int p1), .val (.int p2), .val (.int p3), .val (.int p4), .val (.int p5), .val (.int ((p1 &&& (3 : Int32)) + (1 : Int32))), .val (.double (FP.i2d (p2 &&& (255 : Int32)))), .second, .val (.double (FP.i2d (p3 &&& (255 : Int32)))), .second, .unset, .unset, .unset, .unset, .unset, .unset, .unset, .unset] [(.int (255 : Int32)), (.int p4)])) _
    refine XS.iand X0.here hx rfl (hb hby at_27) rfl ?_
    show Steps p.tables e below (s₁.setTop (mkF m 28 #[.val (.int p1), .val (.int p2), .val (.int p3), .val (.int p4), .val (.int p5), .val (.int ((p1 &&& (3 : Int32)) + (1 : Int32))), .val (.double (FP.i2d (p2 &&& (255 : Int32)))), .second, .val (.double (FP.i2d (p3 &&& (255 : Int32)))), .second, .unset, .unset, .unset, .unset, .unset, .unset, .unset, .unset] [(.int (p4 &&& (255 : Int32)))])) _
    refine XS.i2dS X0.here hx rfl (hb hby at_28) rfl rfl ?_
    show Steps p.tables e below (s₁.setTop (mkF m 29 #[.val (.int p1), .val (.int p2), .val (.int p3), .val (.int p4), .val (.int p5), .val (.int ((p1 &&& (3 : Int32)) + (1 : Int32))), .val (.double (FP.i2d (p2 &&& (255 : Int32)))), .second, .val (.double (FP.i2d (p3 &&& (255 : Int32)))), .second, .unset, .unset, .unset, .unset, .unset, .unset, .unset, .unset] [(.double (FP.i2d (p4 &&& (255 : Int32))))])) _
    refine XS.dstore X0.here hx rfl (hb hby at_29) rfl (l' := #[.val (.int p1), .val (.int p2), .val (.int p3), .val (.int p4), .val (.int p5), .val (.int ((p1 &&& (3 : Int32)) + (1 : Int32))), .val (.double (FP.i2d (p2 &&& (255 : Int32)))), .second, .val (.double (FP.i2d (p3 &&& (255 : Int32)))), .second, .val (.double (FP.i2d (p4 &&& (255 : Int32)))), .second, .unset, .unset, .unset, .unset, .unset, .unset]) rfl ?_
    show Steps p.tables e below (s₁.setTop (mkF m 31 #[.val (.int p1), .val (.int p2), .val (.int p3), .val (.int p4), .val (.int p5), .val (.int ((p1 &&& (3 : Int32)) + (1 : Int32))), .val (.double (FP.i2d (p2 &&& (255 : Int32)))), .second, .val (.double (FP.i2d (p3 &&& (255 : Int32)))), .second, .val (.double (FP.i2d (p4 &&& (255 : Int32)))), .second, .unset, .unset, .unset, .unset, .unset, .unset] [])) _
    refine XS.iload X0.here hx rfl (hb hby at_31) rfl ?_
    show Steps p.tables e below (s₁.setTop (mkF m 33 #[.val (.int p1), .val (.int p2), .val (.int p3), .val (.int p4), .val (.int p5), .val (.int ((p1 &&& (3 : Int32)) + (1 : Int32))), .val (.double (FP.i2d (p2 &&& (255 : Int32)))), .second, .val (.double (FP.i2d (p3 &&& (255 : Int32)))), .second, .val (.double (FP.i2d (p4 &&& (255 : Int32)))), .second, .unset, .unset, .unset, .unset, .unset, .unset] [(.int p5)])) _
    refine XS.sipush X0.here hx rfl (hb hby at_33) ?_
    show Steps p.tables e below (s₁.setTop (mkF m 36 #[.val (.int p1), .val (.int p2), .val (.int p3), .val (.int p4), .val (.int p5), .val (.int ((p1 &&& (3 : Int32)) + (1 : Int32))), .val (.double (FP.i2d (p2 &&& (255 : Int32)))), .second, .val (.double (FP.i2d (p3 &&& (255 : Int32)))), .second, .val (.double (FP.i2d (p4 &&& (255 : Int32)))), .second, .unset, .unset, .unset, .unset, .unset, .unset] [(.int (255 : Int32)), (.int p5)])) _
    refine XS.iand X0.here hx rfl (hb hby at_36) rfl ?_
    show Steps p.tables e below (s₁.setTop (mkF m 37 #[.val (.int p1), .val (.int p2), .val (.int p3), .val (.int p4), .val (.int p5), .val (.int ((p1 &&& (3 : Int32)) + (1 : Int32))), .val (.double (FP.i2d (p2 &&& (255 : Int32)))), .second, .val (.double (FP.i2d (p3 &&& (255 : Int32)))), .second, .val (.double (FP.i2d (p4 &&& (255 : Int32)))), .second, .unset, .unset, .unset, .unset, .unset, .unset] [(.int (p5 &&& (255 : Int32)))])) _
    refine XS.i2dS X0.here hx rfl (hb hby at_37) rfl rfl ?_
    show Steps p.tables e below (s₁.setTop (mkF m 38 #[.val (.int p1), .val (.int p2), .val (.int p3), .val (.int p4), .val (.int p5), .val (.int ((p1 &&& (3 : Int32)) + (1 : Int32))), .val (.double (FP.i2d (p2 &&& (255 : Int32)))), .second, .val (.double (FP.i2d (p3 &&& (255 : Int32)))), .second, .val (.double (FP.i2d (p4 &&& (255 : Int32)))), .second, .unset, .unset, .unset, .unset, .unset, .unset] [(.double (FP.i2d (p5 &&& (255 : Int32))))])) _
    refine XS.dstore X0.here hx rfl (hb hby at_38) rfl (l' := #[.val (.int p1), .val (.int p2), .val (.int p3), .val (.int p4), .val (.int p5), .val (.int ((p1 &&& (3 : Int32)) + (1 : Int32))), .val (.double (FP.i2d (p2 &&& (255 : Int32)))), .second, .val (.double (FP.i2d (p3 &&& (255 : Int32)))), .second, .val (.double (FP.i2d (p4 &&& (255 : Int32)))), .second, .val (.double (FP.i2d (p5 &&& (255 : Int32)))), .second, .unset, .unset, .unset, .unset]) rfl ?_
    show Steps p.tables e below (s₁.setTop (mkF m 40 #[.val (.int p1), .val (.int p2), .val (.int p3), .val (.int p4), .val (.int p5), .val (.int ((p1 &&& (3 : Int32)) + (1 : Int32))), .val (.double (FP.i2d (p2 &&& (255 : Int32)))), .second, .val (.double (FP.i2d (p3 &&& (255 : Int32)))), .second, .val (.double (FP.i2d (p4 &&& (255 : Int32)))), .second, .val (.double (FP.i2d (p5 &&& (255 : Int32)))), .second, .unset, .unset, .unset, .unset] [])) _
    refine XS.iload X0.here hx rfl (hb hby at_40) rfl ?_
    exact Steps.refl _
  obtain ⟨ln, hln⟩ : ∃ z, z = ((p1 &&& (3 : Int32)) + (1 : Int32)) := ⟨_, rfl⟩
  have r14 : Steps p.tables e below S0 (s₁.setTop (mkF m 42 #[.val (.int p1), .val (.int p2), .val (.int p3), .val (.int p4), .val (.int p5), .val (.int ln), .val (.double (FP.i2d (p2 &&& (255 : Int32)))), .second, .val (.double (FP.i2d (p3 &&& (255 : Int32)))), .second, .val (.double (FP.i2d (p4 &&& (255 : Int32)))), .second, .val (.double (FP.i2d (p5 &&& (255 : Int32)))), .second, .unset, .unset, .unset, .unset] [(.int ln)])) := by rw [hln]; exact r13
  obtain ⟨u0, hu0⟩ : ∃ z, z = (FP.i2d (p2 &&& (255 : Int32))) := ⟨_, rfl⟩
  have r15 : Steps p.tables e below S0 (s₁.setTop (mkF m 42 #[.val (.int p1), .val (.int p2), .val (.int p3), .val (.int p4), .val (.int p5), .val (.int ln), .val (.double u0), .second, .val (.double (FP.i2d (p3 &&& (255 : Int32)))), .second, .val (.double (FP.i2d (p4 &&& (255 : Int32)))), .second, .val (.double (FP.i2d (p5 &&& (255 : Int32)))), .second, .unset, .unset, .unset, .unset] [(.int ln)])) := by rw [hu0]; exact r14
  obtain ⟨u1, hu1⟩ : ∃ z, z = (FP.i2d (p3 &&& (255 : Int32))) := ⟨_, rfl⟩
  have r16 : Steps p.tables e below S0 (s₁.setTop (mkF m 42 #[.val (.int p1), .val (.int p2), .val (.int p3), .val (.int p4), .val (.int p5), .val (.int ln), .val (.double u0), .second, .val (.double u1), .second, .val (.double (FP.i2d (p4 &&& (255 : Int32)))), .second, .val (.double (FP.i2d (p5 &&& (255 : Int32)))), .second, .unset, .unset, .unset, .unset] [(.int ln)])) := by rw [hu1]; exact r15
  obtain ⟨u2, hu2⟩ : ∃ z, z = (FP.i2d (p4 &&& (255 : Int32))) := ⟨_, rfl⟩
  have r17 : Steps p.tables e below S0 (s₁.setTop (mkF m 42 #[.val (.int p1), .val (.int p2), .val (.int p3), .val (.int p4), .val (.int p5), .val (.int ln), .val (.double u0), .second, .val (.double u1), .second, .val (.double u2), .second, .val (.double (FP.i2d (p5 &&& (255 : Int32)))), .second, .unset, .unset, .unset, .unset] [(.int ln)])) := by rw [hu2]; exact r16
  obtain ⟨u3, hu3⟩ : ∃ z, z = (FP.i2d (p5 &&& (255 : Int32))) := ⟨_, rfl⟩
  have r18 : Steps p.tables e below S0 (s₁.setTop (mkF m 42 #[.val (.int p1), .val (.int p2), .val (.int p3), .val (.int p4), .val (.int p5), .val (.int ln), .val (.double u0), .second, .val (.double u1), .second, .val (.double u2), .second, .val (.double u3), .second, .unset, .unset, .unset, .unset] [(.int ln)])) := by rw [hu3]; exact r17
  have hl := own_ln p1
  rw [← hln] at hl
  have hlp : 1 ≤ ln.toInt := by rcases hl with q | q | q | q <;> rw [q] <;> decide
  have hl0 : ¬ ln < 0 := by rcases hl with q | q | q | q <;> rw [q] <;> decide
  have hl4 : ln.toNatClampNeg ≤ 4 := by rcases hl with q | q | q | q <;> rw [q] <;> decide
  obtain ⟨T19, h19, k19, X19, e19, E19, A19, st19⟩ := newP X0 hx hZ (hw _ (List.mem_of_getElem? (i := 0) rfl)) e0 (g := (mkF m 42 #[.val (.int p1), .val (.int p2), .val (.int p3), .val (.int p4), .val (.int p5), .val (.int ln), .val (.double u0), .second, .val (.double u1), .second, .val (.double u2), .second, .val (.double u3), .second, .unset, .unset, .unset, .unset] [(.int ln)])) rfl (hb hby at_42) rfl hl0 (cap := 4) hl4 (by decide) (by decide) (by decide)
  obtain ⟨b1, g19⟩ : ∃ z, z = h0.size := ⟨_, rfl⟩
  rw [← g19] at A19 st19
  have G_b1 : Gar Z h19 b1 .double (ln).toNatClampNeg (fun _ => defaultValue .double) := Gar.new A19
  have g_b1 : n0 ≤ b1 := Nat.le_trans Z0 (Nat.le_of_eq g19.symm)
  have Z19 : n0 ≤ h19.size := Nat.le_trans Z0 E19.1
  have r20 : Steps p.tables e below S0 (T19.setTop (mkF m 44 #[.val (.int p1), .val (.int p2), .val (.int p3), .val (.int p4), .val (.int p5), .val (.int ln), .val (.double u0), .second, .val (.double u1), .second, .val (.double u2), .second, .val (.double u3), .second, .unset, .unset, .unset, .unset] [(.ref b1)])) := r18.trans (st19 _ (Steps.refl _))
  have r21 : Steps p.tables e below S0 (T19.setTop (mkF m 46 #[.val (.int p1), .val (.int p2), .val (.int p3), .val (.int p4), .val (.int p5), .val (.int ln), .val (.double u0), .second, .val (.double u1), .second, .val (.double u2), .second, .val (.double u3), .second, .val (.ref b1), .unset, .unset, .unset] [])) := by
    refine r20.trans ?_
    show Steps p.tables e below (T19.setTop (mkF m 44 #[.val (.int p1), .val (.int p2), .val (.int p3), .val (.int p4), .val (.int p5), .val (.int ln), .val (.double u0), .second, .val (.double u1), .second, .val (.double u2), .second, .val (.double u3), .second, .unset, .unset, .unset, .unset] [(.ref b1)])) _
    refine XS.astore X19.here hx rfl (hb hby at_44) rfl rfl (l' := #[.val (.int p1), .val (.int p2), .val (.int p3), .val (.int p4), .val (.int p5), .val (.int ln), .val (.double u0), .second, .val (.double u1), .second, .val (.double u2), .second, .val (.double u3), .second, .val (.ref b1), .unset, .unset, .unset]) rfl ?_
    exact Steps.refl _
  obtain ⟨TM, hM, LM, XM, eM, NM, GM, ZM, rM⟩ : ∃ (T' : State) (h' : Heap) (L' : List Loc), Stand p l e room_1 s m #[(.int p1), (.int p2), (.int p3), (.int p4), (.int p5)] below meth c T' L' (0 + 1) (0 + 4) ∧ T'.heap = h' ∧ Fr n0 L' ∧ Gar Z h' b1 .double ln.toNatClampNeg (fun i => .double (own_f u0 u1 u2 u3 i)) ∧ n0 ≤ h'.size ∧ Steps p.tables e below S0 (T'.setTop (mkF m 88 #[.val (.int p1), .val (.int p2), .val (.int p3), .val (.int p4), .val (.int p5), .val (.int ln), .val (.double u0), .second, .val (.double u1), .second, .val (.double u2), .second, .val (.double u3), .second, .val (.ref b1), .unset, .unset, .unset] [])) := by
    rcases hl with hq | hq | hq | hq
    · skip
      have hN : ln.toNatClampNeg = 1 := by rw [hq]; decide
      have r22 : Steps p.tables e below S0 (T19.setTop (mkF m 51 #[.val (.int p1), .val (.int p2), .val (.int p3), .val (.int p4), .val (.int p5), .val (.int ln), .val (.double u0), .second, .val (.double u1), .second, .val (.double u2), .second, .val (.double u3), .second, .val (.ref b1), .unset, .unset, .unset] [(.double u0), (.int (0 : Int32)), (.ref b1)])) := by
        refine r21.trans ?_
        show Steps p.tables e below (T19.setTop (mkF m 46 #[.val (.int p1), .val (.int p2), .val (.int p3), .val (.int p4), .val (.int p5), .val (.int ln), .val (.double u0), .second, .val (.double u1), .second, .val (.double u2), .second, .val (.double u3), .second, .val (.ref b1), .unset, .unset, .unset] [])) _
        refine XS.aload X19.here hx rfl (hb hby at_46) rfl rfl ?_
        show Steps p.tables e below (T19.setTop (mkF m 48 #[.val (.int p1), .val (.int p2), .val (.int p3), .val (.int p4), .val (.int p5), .val (.int ln), .val (.double u0), .second, .val (.double u1), .second, .val (.double u2), .second, .val (.double u3), .second, .val (.ref b1), .unset, .unset, .unset] [(.ref b1)])) _
        refine XS.iconst X19.here hx rfl (hb hby at_48) ?_
        show Steps p.tables e below (T19.setTop (mkF m 49 #[.val (.int p1), .val (.int p2), .val (.int p3), .val (.int p4), .val (.int p5), .val (.int ln), .val (.double u0), .second, .val (.double u1), .second, .val (.double u2), .second, .val (.double u3), .second, .val (.ref b1), .unset, .unset, .unset] [(.int (0 : Int32)), (.ref b1)])) _
        refine XS.dload X19.here hx rfl (hb hby at_49) rfl ?_
        exact Steps.refl _
      obtain ⟨T23, h23, X23, e23, W23, st23⟩ := stDG X19 hx hZ e19 G_b1 (j := (0 : Int32)) (by decide) (by rw [hN]; decide) (g := (mkF m 51 #[.val (.int p1), .val (.int p2), .val (.int p3), .val (.int p4), .val (.int p5), .val (.int ln), .val (.double u0), .second, .val (.double u1), .second, .val (.double u2), .second, .val (.double u3), .second, .val (.ref b1), .unset, .unset, .unset] [(.double u0), (.int (0 : Int32)), (.ref b1)])) rfl rfl (hb hby at_51)
      have N23 := Fr.snoc X23 N0 g_b1
      have G23_b1 := G_b1.set W23
      have Z23 : n0 ≤ h23.size := Nat.le_trans Z19 (Nat.le_of_eq W23.size.symm)
      have r24 : Steps p.tables e below S0 (T23.setTop (mkF m 52 #[.val (.int p1), .val (.int p2), .val (.int p3), .val (.int p4), .val (.int p5), .val (.int ln), .val (.double u0), .second, .val (.double u1), .second, .val (.double u2), .second, .val (.double u3), .second, .val (.ref b1), .unset, .unset, .unset] [])) := r22.trans (st23 _ (Steps.refl _))
      have r25 : Steps p.tables e below S0 (T23.setTop (mkF m 88 #[.val (.int p1), .val (.int p2), .val (.int p3), .val (.int p4), .val (.int p5), .val (.int ln), .val (.double u0), .second, .val (.double u1), .second, .val (.double u2), .second, .val (.double u3), .second, .val (.ref b1), .unset, .unset, .unset] [])) := by
        refine r24.trans ?_
        show Steps p.tables e below (T23.setTop (mkF m 52 #[.val (.int p1), .val (.int p2), .val (.int p3), .val (.int p4), .val (.int p5), .val (.int ln), .val (.double u0), .second, .val (.double u1), .second, .val (.double u2), .second, .val (.double u3), .second, .val (.ref b1), .unset, .unset, .unset] [])) _
        refine XS.iload X23.here hx rfl (hb hby at_52) rfl ?_
        show Steps p.tables e below (T23.setTop (mkF m 54 #[.val (.int p1), .val (.int p2), .val (.int p3), .val (.int p4), .val (.int p5), .val (.int ln), .val (.double u0), .second, .val (.double u1), .second, .val (.double u2), .second, .val (.double u3), .second, .val (.ref b1), .unset, .unset, .unset] [(.int ln)])) _
        refine XS.iconst X23.here hx rfl (hb hby at_54) ?_
        show Steps p.tables e below (T23.setTop (mkF m 55 #[.val (.int p1), .val (.int p2), .val (.int p3), .val (.int p4), .val (.int p5), .val (.int ln), .val (.double u0), .second, .val (.double u1), .second, .val (.double u2), .second, .val (.double u3), .second, .val (.ref b1), .unset, .unset, .unset] [(.int (1 : Int32)), (.int ln)])) _
        refine XS.icmpYes X23.here hx rfl (pc0 := 55) (pc' := 64) rfl (hb hby at_55) rfl (flt (by rw [hq] <;> decide)).2.2.2 (by decide) (by decide) ?_
        show Steps p.tables e below (T23.setTop (mkF m 64 #[.val (.int p1), .val (.int p2), .val (.int p3), .val (.int p4), .val (.int p5), .val (.int ln), .val (.double u0), .second, .val (.double u1), .second, .val (.double u2), .second, .val (.double u3), .second, .val (.ref b1), .unset, .unset, .unset] [])) _
        refine XS.iload X23.here hx rfl (hb hby at_64) rfl ?_
        show Steps p.tables e below (T23.setTop (mkF m 66 #[.val (.int p1), .val (.int p2), .val (.int p3), .val (.int p4), .val (.int p5), .val (.int ln), .val (.double u0), .second, .val (.double u1), .second, .val (.double u2), .second, .val (.double u3), .second, .val (.ref b1), .unset, .unset, .unset] [(.int ln)])) _
        refine XS.iconst X23.here hx rfl (hb hby at_66) ?_
        show Steps p.tables e below (T23.setTop (mkF m 67 #[.val (.int p1), .val (.int p2), .val (.int p3), .val (.int p4), .val (.int p5), .val (.int ln), .val (.double u0), .second, .val (.double u1), .second, .val (.double u2), .second, .val (.double u3), .second, .val (.ref b1), .unset, .unset, .unset] [(.int (2 : Int32)), (.int ln)])) _
        refine XS.icmpYes X23.here hx rfl (pc0 := 67) (pc' := 76) rfl (hb hby at_67) rfl (flt (by rw [hq] <;> decide)).2.2.2 (by decide) (by decide) ?_
        show Steps p.tables e below (T23.setTop (mkF m 76 #[.val (.int p1), .val (.int p2), .val (.int p3), .val (.int p4), .val (.int p5), .val (.int ln), .val (.double u0), .second, .val (.double u1), .second, .val (.double u2), .second, .val (.double u3), .second, .val (.ref b1), .unset, .unset, .unset] [])) _
        refine XS.iload X23.here hx rfl (hb hby at_76) rfl ?_
        show Steps p.tables e below (T23.setTop (mkF m 78 #[.val (.int p1), .val (.int p2), .val (.int p3), .val (.int p4), .val (.int p5), .val (.int ln), .val (.double u0), .second, .val (.double u1), .second, .val (.double u2), .second, .val (.double u3), .second, .val (.ref b1), .unset, .unset, .unset] [(.int ln)])) _
        refine XS.iconst X23.here hx rfl (hb hby at_78) ?_
        show Steps p.tables e below (T23.setTop (mkF m 79 #[.val (.int p1), .val (.int p2), .val (.int p3), .val (.int p4), .val (.int p5), .val (.int ln), .val (.double u0), .second, .val (.double u1), .second, .val (.double u2), .second, .val (.double u3), .second, .val (.ref b1), .unset, .unset, .unset] [(.int (3 : Int32)), (.int ln)])) _
        refine XS.icmpYes X23.here hx rfl (pc0 := 79) (pc' := 88) rfl (hb hby at_79) rfl (flt (by rw [hq] <;> decide)).2.2.2 (by decide) (by decide) ?_
        exact Steps.refl _
      refine ⟨T23, h23, _, X23, e23, N23, G23_b1.congr (fun i hi => ?_), Z23, r25⟩
      rw [hN] at hi
      have hi2 : i = 0 := by omega
      subst hi2; rfl
    · skip
      have hN : ln.toNatClampNeg = 2 := by rw [hq]; decide
      have r26 : Steps p.tables e below S0 (T19.setTop (mkF m 51 #[.val (.int p1), .val (.int p2), .val (.int p3), .val (.int p4), .val (.int p5), .val (.int ln), .val (.double u0), .second, .val (.double u1), .second, .val (.double u2), .second, .val (.double u3), .second, .val (.ref b1), .unset, .unset, .unset] [(.double u0), (.int (0 : Int32)), (.ref b1)])) := by
        refine r21.trans ?_
        show Steps p.tables e below (T19.setTop (mkF m 46 #[.val (.int p1), .val (.int p2), .val (.int p3), .val (.int p4), .val (.int p5), .val (.int ln), .val (.double u0), .second, .val (.double u1), .second, .val (.double u2), .second, .val (.double u3), .second, .val (.ref b1), .unset, .unset, .unset] [])) _
        refine XS.aload X19.here hx rfl (hb hby at_46) rfl rfl ?_
        show Steps p.tables e below (T19.setTop (mkF m 48 #[.val (.int p1), .val (.int p2), .val (.int p3), .val (.int p4), .val (.int p5), .val (.int ln), .val (.double u0), .second, .val (.double u1), .second, .val (.double u2), .second, .val (.double u3), .second, .val (.ref b1), .unset, .unset, .unset] [(.ref b1)])) _
        refine XS.iconst X19.here hx rfl (hb hby at_48) ?_
        show Steps p.tables e below (T19.setTop (mkF m 49 #[.val (.int p1), .val (.int p2), .val (.int p3), .val (.int p4), .val (.int p5), .val (.int ln), .val (.double u0), .second, .val (.double u1), .second, .val (.double u2), .second, .val (.double u3), .second, .val (.ref b1), .unset, .unset, .unset] [(.int (0 : Int32)), (.ref b1)])) _
        refine XS.dload X19.here hx rfl (hb hby at_49) rfl ?_
        exact Steps.refl _
      obtain ⟨T27, h27, X27, e27, W27, st27⟩ := stDG X19 hx hZ e19 G_b1 (j := (0 : Int32)) (by decide) (by rw [hN]; decide) (g := (mkF m 51 #[.val (.int p1), .val (.int p2), .val (.int p3), .val (.int p4), .val (.int p5), .val (.int ln), .val (.double u0), .second, .val (.double u1), .second, .val (.double u2), .second, .val (.double u3), .second, .val (.ref b1), .unset, .unset, .unset] [(.double u0), (.int (0 : Int32)), (.ref b1)])) rfl rfl (hb hby at_51)
      have N27 := Fr.snoc X27 N0 g_b1
      have G27_b1 := G_b1.set W27
      have Z27 : n0 ≤ h27.size := Nat.le_trans Z19 (Nat.le_of_eq W27.size.symm)
      have r28 : Steps p.tables e below S0 (T27.setTop (mkF m 52 #[.val (.int p1), .val (.int p2), .val (.int p3), .val (.int p4), .val (.int p5), .val (.int ln), .val (.double u0), .second, .val (.double u1), .second, .val (.double u2), .second, .val (.double u3), .second, .val (.ref b1), .unset, .unset, .unset] [])) := r26.trans (st27 _ (Steps.refl _))
      have r29 : Steps p.tables e below S0 (T27.setTop (mkF m 63 #[.val (.int p1), .val (.int p2), .val (.int p3), .val (.int p4), .val (.int p5), .val (.int ln), .val (.double u0), .second, .val (.double u1), .second, .val (.double u2), .second, .val (.double u3), .second, .val (.ref b1), .unset, .unset, .unset] [(.double u1), (.int (1 : Int32)), (.ref b1)])) := by
        refine r28.trans ?_
        show Steps p.tables e below (T27.setTop (mkF m 52 #[.val (.int p1), .val (.int p2), .val (.int p3), .val (.int p4), .val (.int p5), .val (.int ln), .val (.double u0), .second, .val (.double u1), .second, .val (.double u2), .second, .val (.double u3), .second, .val (.ref b1), .unset, .unset, .unset] [])) _
        refine XS.iload X27.here hx rfl (hb hby at_52) rfl ?_
        show Steps p.tables e below (T27.setTop (mkF m 54 #[.val (.int p1), .val (.int p2), .val (.int p3), .val (.int p4), .val (.int p5), .val (.int ln), .val (.double u0), .second, .val (.double u1), .second, .val (.double u2), .second, .val (.double u3), .second, .val (.ref b1), .unset, .unset, .unset] [(.int ln)])) _
        refine XS.iconst X27.here hx rfl (hb hby at_54) ?_
        show Steps p.tables e below (T27.setTop (mkF m 55 #[.val (.int p1), .val (.int p2), .val (.int p3), .val (.int p4), .val (.int p5), .val (.int ln), .val (.double u0), .second, .val (.double u1), .second, .val (.double u2), .second, .val (.double u3), .second, .val (.ref b1), .unset, .unset, .unset] [(.int (1 : Int32)), (.int ln)])) _
        refine XS.icmpNo X27.here hx rfl (hb hby at_55) rfl (tlt (by rw [hq] <;> decide)).2.2.2 ?_
        show Steps p.tables e below (T27.setTop (mkF m 58 #[.val (.int p1), .val (.int p2), .val (.int p3), .val (.int p4), .val (.int p5), .val (.int ln), .val (.double u0), .second, .val (.double u1), .second, .val (.double u2), .second, .val (.double u3), .second, .val (.ref b1), .unset, .unset, .unset] [])) _
        refine XS.aload X27.here hx rfl (hb hby at_58) rfl rfl ?_
        show Steps p.tables e below (T27.setTop (mkF m 60 #[.val (.int p1), .val (.int p2), .val (.int p3), .val (.int p4), .val (.int p5), .val (.int ln), .val (.double u0), .second, .val (.double u1), .second, .val (.double u2), .second, .val (.double u3), .second, .val (.ref b1), .unset, .unset, .unset] [(.ref b1)])) _
        refine XS.iconst X27.here hx rfl (hb hby at_60) ?_
        show Steps p.tables e below (T27.setTop (mkF m 61 #[.val (.int p1), .val (.int p2), .val (.int p3), .val (.int p4), .val (.int p5), .val (.int ln), .val (.double u0), .second, .val (.double u1), .second, .val (.double u2), .second, .val (.double u3), .second, .val (.ref b1), .unset, .unset, .unset] [(.int (1 : Int32)), (.ref b1)])) _
        refine XS.dload X27.here hx rfl (hb hby at_61) rfl ?_
        exact Steps.refl _
      obtain ⟨T30, h30, X30, e30, W30, st30⟩ := stDG X27 hx hZ e27 G27_b1 (j := (1 : Int32)) (by decide) (by rw [hN]; decide) (g := (mkF m 63 #[.val (.int p1), .val (.int p2), .val (.int p3), .val (.int p4), .val (.int p5), .val (.int ln), .val (.double u0), .second, .val (.double u1), .second, .val (.double u2), .second, .val (.double u3), .second, .val (.ref b1), .unset, .unset, .unset] [(.double u1), (.int (1 : Int32)), (.ref b1)])) rfl rfl (hb hby at_63)
      have N30 := Fr.snoc X30 N27 g_b1
      have G30_b1 := G27_b1.set W30
      have Z30 : n0 ≤ h30.size := Nat.le_trans Z27 (Nat.le_of_eq W30.size.symm)
      have r31 : Steps p.tables e below S0 (T30.setTop (mkF m 64 #[.val (.int p1), .val (.int p2), .val (.int p3), .val (.int p4), .val (.int p5), .val (.int ln), .val (.double u0), .second, .val (.double u1), .second, .val (.double u2), .second, .val (.double u3), .second, .val (.ref b1), .unset, .unset, .unset] [])) := r29.trans (st30 _ (Steps.refl _))
      have r32 : Steps p.tables e below S0 (T30.setTop (mkF m 88 #[.val (.int p1), .val (.int p2), .val (.int p3), .val (.int p4), .val (.int p5), .val (.int ln), .val (.double u0), .second, .val (.double u1), .second, .val (.double u2), .second, .val (.double u3), .second, .val (.ref b1), .unset, .unset, .unset] [])) := by
        refine r31.trans ?_
        show Steps p.tables e below (T30.setTop (mkF m 64 #[.val (.int p1), .val (.int p2), .val (.int p3), .val (.int p4), .val (.int p5), .val (.int ln), .val (.double u0), .second, .val (.double u1), .second, .val (.double u2), .second, .val (.double u3), .second, .val (.ref b1), .unset, .unset, .unset] [])) _
        refine XS.iload X30.here hx rfl (hb hby at_64) rfl ?_
        show Steps p.tables e below (T30.setTop (mkF m 66 #[.val (.int p1), .val (.int p2), .val (.int p3), .val (.int p4), .val (.int p5), .val (.int ln), .val (.double u0), .second, .val (.double u1), .second, .val (.double u2), .second, .val (.double u3), .second, .val (.ref b1), .unset, .unset, .unset] [(.int ln)])) _
        refine XS.iconst X30.here hx rfl (hb hby at_66) ?_
        show Steps p.tables e below (T30.setTop (mkF m 67 #[.val (.int p1), .val (.int p2), .val (.int p3), .val (.int p4), .val (.int p5), .val (.int ln), .val (.double u0), .second, .val (.double u1), .second, .val (.double u2), .second, .val (.double u3), .second, .val (.ref b1), .unset, .unset, .unset] [(.int (2 : Int32)), (.int ln)])) _
        refine XS.icmpYes X30.here hx rfl (pc0 := 67) (pc' := 76) rfl (hb hby at_67) rfl (flt (by rw [hq] <;> decide)).2.2.2 (by decide) (by decide) ?_
        show Steps p.tables e below (T30.setTop (mkF m 76 #[.val (.int p1), .val (.int p2), .val (.int p3), .val (.int p4), .val (.int p5), .val (.int ln), .val (.double u0), .second, .val (.double u1), .second, .val (.double u2), .second, .val (.double u3), .second, .val (.ref b1), .unset, .unset, .unset] [])) _
        refine XS.iload X30.here hx rfl (hb hby at_76) rfl ?_
        show Steps p.tables e below (T30.setTop (mkF m 78 #[.val (.int p1), .val (.int p2), .val (.int p3), .val (.int p4), .val (.int p5), .val (.int ln), .val (.double u0), .second, .val (.double u1), .second, .val (.double u2), .second, .val (.double u3), .second, .val (.ref b1), .unset, .unset, .unset] [(.int ln)])) _
        refine XS.iconst X30.here hx rfl (hb hby at_78) ?_
        show Steps p.tables e below (T30.setTop (mkF m 79 #[.val (.int p1), .val (.int p2), .val (.int p3), .val (.int p4), .val (.int p5), .val (.int ln), .val (.double u0), .second, .val (.double u1), .second, .val (.double u2), .second, .val (.double u3), .second, .val (.ref b1), .unset, .unset, .unset] [(.int (3 : Int32)), (.int ln)])) _
        refine XS.icmpYes X30.here hx rfl (pc0 := 79) (pc' := 88) rfl (hb hby at_79) rfl (flt (by rw [hq] <;> decide)).2.2.2 (by decide) (by decide) ?_
        exact Steps.refl _
      refine ⟨T30, h30, _, X30, e30, N30, G30_b1.congr (fun i hi => ?_), Z30, r32⟩
      rw [hN] at hi
      have hi2 : i = 0 ∨ i = 1 := by omega
      rcases hi2 with rfl | rfl <;> rfl
    · skip
      have hN : ln.toNatClampNeg = 3 := by rw [hq]; decide
      have r33 : Steps p.tables e below S0 (T19.setTop (mkF m 51 #[.val (.int p1), .val (.int p2), .val (.int p3), .val (.int p4), .val (.int p5), .val (.int ln), .val (.double u0), .second, .val (.double u1), .second, .val (.double u2), .second, .val (.double u3), .second, .val (.ref b1), .unset, .unset, .unset] [(.double u0), (.int (0 : Int32)), (.ref b1)])) := by
        refine r21.trans ?_
        show Steps p.tables e below (T19.setTop (mkF m 46 #[.val (.int p1), .val (.int p2), .val (.int p3), .val (.int p4), .val (.int p5), .val (.int ln), .val (.double u0), .second, .val (.double u1), .second, .val (.double u2), .second, .val (.double u3), .second, .val (.ref b1), .unset, .unset, .unset] [])) _
        refine XS.aload X19.here hx rfl (hb hby at_46) rfl rfl ?_
        show Steps p.tables e below (T19.setTop (mkF m 48 #[.val (.int p1), .val (.int p2), .val (.int p3), .val (.int p4), .val (.int p5), .val (.int ln), .val (.double u0), .second, .val (.double u1), .second, .val (.double u2), .second, .val (.double u3), .second, .val (.ref b1), .unset, .unset, .unset] [(.ref b1)])) _
        refine XS.iconst X19.here hx rfl (hb hby at_48) ?_
        show Steps p.tables e below (T19.setTop (mkF m 49 #[.val (.int p1), .val (.int p2), .val (.int p3), .val (.int p4), .val (.int p5), .val (.int ln), .val (.double u0), .second, .val (.double u1), .second, .val (.double u2), .second, .val (.double u3), .second, .val (.ref b1), .unset, .unset, .unset] [(.int (0 : Int32)), (.ref b1)])) _
        refine XS.dload X19.here hx rfl (hb hby at_49) rfl ?_
        exact Steps.refl _
      obtain ⟨T34, h34, X34, e34, W34, st34⟩ := stDG X19 hx hZ e19 G_b1 (j := (0 : Int32)) (by decide) (by rw [hN]; decide) (g := (mkF m 51 #[.val (.int p1), .val (.int p2), .val (.int p3), .val (.int p4), .val (.int p5), .val (.int ln), .val (.double u0), .second, .val (.double u1), .second, .val (.double u2), .second, .val (.double u3), .second, .val (.ref b1), .unset, .unset, .unset] [(.double u0), (.int (0 : Int32)), (.ref b1)])) rfl rfl (hb hby at_51)
      have N34 := Fr.snoc X34 N0 g_b1
      have G34_b1 := G_b1.set W34
      have Z34 : n0 ≤ h34.size := Nat.le_trans Z19 (Nat.le_of_eq W34.size.symm)
      have r35 : Steps p.tables e below S0 (T34.setTop (mkF m 52 #[.val (.int p1), .val (.int p2), .val (.int p3), .val (.int p4), .val (.int p5), .val (.int ln), .val (.double u0), .second, .val (.double u1), .second, .val (.double u2), .second, .val (.double u3), .second, .val (.ref b1), .unset, .unset, .unset] [])) := r33.trans (st34 _ (Steps.refl _))
      have r36 : Steps p.tables e below S0 (T34.setTop (mkF m 63 #[.val (.int p1), .val (.int p2), .val (.int p3), .val (.int p4), .val (.int p5), .val (.int ln), .val (.double u0), .second, .val (.double u1), .second, .val (.double u2), .second, .val (.double u3), .second, .val (.ref b1), .unset, .unset, .unset] [(.double u1), (.int (1 : Int32)), (.ref b1)])) := by
        refine r35.trans ?_
        show Steps p.tables e below (T34.setTop (mkF m 52 #[.val (.int p1), .val (.int p2), .val (.int p3), .val (.int p4), .val (.int p5), .val (.int ln), .val (.double u0), .second, .val (.double u1), .second, .val (.double u2), .second, .val (.double u3), .second, .val (.ref b1), .unset, .unset, .unset] [])) _
        refine XS.iload X34.here hx rfl (hb hby at_52) rfl ?_
        show Steps p.tables e below (T34.setTop (mkF m 54 #[.val (.int p1), .val (.int p2), .val (.int p3), .val (.int p4), .val (.int p5), .val (.int ln), .val (.double u0), .second, .val (.double u1), .second, .val (.double u2), .second, .val (.double u3), .second, .val (.ref b1), .unset, .unset, .unset] [(.int ln)])) _
        refine XS.iconst X34.here hx rfl (hb hby at_54) ?_
        show Steps p.tables e below (T34.setTop (mkF m 55 #[.val (.int p1), .val (.int p2), .val (.int p3), .val (.int p4), .val (.int p5), .val (.int ln), .val (.double u0), .second, .val (.double u1), .second, .val (.double u2), .second, .val (.double u3), .second, .val (.ref b1), .unset, .unset, .unset] [(.int (1 : Int32)), (.int ln)])) _
        refine XS.icmpNo X34.here hx rfl (hb hby at_55) rfl (tlt (by rw [hq] <;> decide)).2.2.2 ?_
        show Steps p.tables e below (T34.setTop (mkF m 58 #[.val (.int p1), .val (.int p2), .val (.int p3), .val (.int p4), .val (.int p5), .val (.int ln), .val (.double u0), .second, .val (.double u1), .second, .val (.double u2), .second, .val (.double u3), .second, .val (.ref b1), .unset, .unset, .unset] [])) _
        refine XS.aload X34.here hx rfl (hb hby at_58) rfl rfl ?_
        show Steps p.tables e below (T34.setTop (mkF m 60 #[.val (.int p1), .val (.int p2), .val (.int p3), .val (.int p4), .val (.int p5), .val (.int ln), .val (.double u0), .second, .val (.double u1), .second, .val (.double u2), .second, .val (.double u3), .second, .val (.ref b1), .unset, .unset, .unset] [(.ref b1)])) _
        refine XS.iconst X34.here hx rfl (hb hby at_60) ?_
        show Steps p.tables e below (T34.setTop (mkF m 61 #[.val (.int p1), .val (.int p2), .val (.int p3), .val (.int p4), .val (.int p5), .val (.int ln), .val (.double u0), .second, .val (.double u1), .second, .val (.double u2), .second, .val (.double u3), .second, .val (.ref b1), .unset, .unset, .unset] [(.int (1 : Int32)), (.ref b1)])) _
        refine XS.dload X34.here hx rfl (hb hby at_61) rfl ?_
        exact Steps.refl _
      obtain ⟨T37, h37, X37, e37, W37, st37⟩ := stDG X34 hx hZ e34 G34_b1 (j := (1 : Int32)) (by decide) (by rw [hN]; decide) (g := (mkF m 63 #[.val (.int p1), .val (.int p2), .val (.int p3), .val (.int p4), .val (.int p5), .val (.int ln), .val (.double u0), .second, .val (.double u1), .second, .val (.double u2), .second, .val (.double u3), .second, .val (.ref b1), .unset, .unset, .unset] [(.double u1), (.int (1 : Int32)), (.ref b1)])) rfl rfl (hb hby at_63)
      have N37 := Fr.snoc X37 N34 g_b1
      have G37_b1 := G34_b1.set W37
      have Z37 : n0 ≤ h37.size := Nat.le_trans Z34 (Nat.le_of_eq W37.size.symm)
      have r38 : Steps p.tables e below S0 (T37.setTop (mkF m 64 #[.val (.int p1), .val (.int p2), .val (.int p3), .val (.int p4), .val (.int p5), .val (.int ln), .val (.double u0), .second, .val (.double u1), .second, .val (.double u2), .second, .val (.double u3), .second, .val (.ref b1), .unset, .unset, .unset] [])) := r36.trans (st37 _ (Steps.refl _))
      have r39 : Steps p.tables e below S0 (T37.setTop (mkF m 75 #[.val (.int p1), .val (.int p2), .val (.int p3), .val (.int p4), .val (.int p5), .val (.int ln), .val (.double u0), .second, .val (.double u1), .second, .val (.double u2), .second, .val (.double u3), .second, .val (.ref b1), .unset, .unset, .unset] [(.double u2), (.int (2 : Int32)), (.ref b1)])) := by
        refine r38.trans ?_
        show Steps p.tables e below (T37.setTop (mkF m 64 #[.val (.int p1), .val (.int p2), .val (.int p3), .val (.int p4), .val (.int p5), .val (.int ln), .val (.double u0), .second, .val (.double u1), .second, .val (.double u2), .second, .val (.double u3), .second, .val (.ref b1), .unset, .unset, .unset] [])) _
        refine XS.iload X37.here hx rfl (hb hby at_64) rfl ?_
        show Steps p.tables e below (T37.setTop (mkF m 66 #[.val (.int p1), .val (.int p2), .val (.int p3), .val (.int p4), .val (.int p5), .val (.int ln), .val (.double u0), .second, .val (.double u1), .second, .val (.double u2), .second, .val (.double u3), .second, .val (.ref b1), .unset, .unset, .unset] [(.int ln)])) _
        refine XS.iconst X37.here hx rfl (hb hby at_66) ?_
        show Steps p.tables e below (T37.setTop (mkF m 67 #[.val (.int p1), .val (.int p2), .val (.int p3), .val (.int p4), .val (.int p5), .val (.int ln), .val (.double u0), .second, .val (.double u1), .second, .val (.double u2), .second, .val (.double u3), .second, .val (.ref b1), .unset, .unset, .unset] [(.int (2 : Int32)), (.int ln)])) _
        refine XS.icmpNo X37.here hx rfl (hb hby at_67) rfl (tlt (by rw [hq] <;> decide)).2.2.2 ?_
        show Steps p.tables e below (T37.setTop (mkF m 70 #[.val (.int p1), .val (.int p2), .val (.int p3), .val (.int p4), .val (.int p5), .val (.int ln), .val (.double u0), .second, .val (.double u1), .second, .val (.double u2), .second, .val (.double u3), .second, .val (.ref b1), .unset, .unset, .unset] [])) _
        refine XS.aload X37.here hx rfl (hb hby at_70) rfl rfl ?_
        show Steps p.tables e below (T37.setTop (mkF m 72 #[.val (.int p1), .val (.int p2), .val (.int p3), .val (.int p4), .val (.int p5), .val (.int ln), .val (.double u0), .second, .val (.double u1), .second, .val (.double u2), .second, .val (.double u3), .second, .val (.ref b1), .unset, .unset, .unset] [(.ref b1)])) _
        refine XS.iconst X37.here hx rfl (hb hby at_72) ?_
        show Steps p.tables e below (T37.setTop (mkF m 73 #[.val (.int p1), .val (.int p2), .val (.int p3), .val (.int p4), .val (.int p5), .val (.int ln), .val (.double u0), .second, .val (.double u1), .second, .val (.double u2), .second, .val (.double u3), .second, .val (.ref b1), .unset, .unset, .unset] [(.int (2 : Int32)), (.ref b1)])) _
        refine XS.dload X37.here hx rfl (hb hby at_73) rfl ?_
        exact Steps.refl _
      obtain ⟨T40, h40, X40, e40, W40, st40⟩ := stDG X37 hx hZ e37 G37_b1 (j := (2 : Int32)) (by decide) (by rw [hN]; decide) (g := (mkF m 75 #[.val (.int p1), .val (.int p2), .val (.int p3), .val (.int p4), .val (.int p5), .val (.int ln), .val (.double u0), .second, .val (.double u1), .second, .val (.double u2), .second, .val (.double u3), .second, .val (.ref b1), .unset, .unset, .unset] [(.double u2), (.int (2 : Int32)), (.ref b1)])) rfl rfl (hb hby at_75)
      have N40 := Fr.snoc X40 N37 g_b1
      have G40_b1 := G37_b1.set W40
      have Z40 : n0 ≤ h40.size := Nat.le_trans Z37 (Nat.le_of_eq W40.size.symm)
      have r41 : Steps p.tables e below S0 (T40.setTop (mkF m 76 #[.val (.int p1), .val (.int p2), .val (.int p3), .val (.int p4), .val (.int p5), .val (.int ln), .val (.double u0), .second, .val (.double u1), .second, .val (.double u2), .second, .val (.double u3), .second, .val (.ref b1), .unset, .unset, .unset] [])) := r39.trans (st40 _ (Steps.refl _))
      have r42 : Steps p.tables e below S0 (T40.setTop (mkF m 88 #[.val (.int p1), .val (.int p2), .val (.int p3), .val (.int p4), .val (.int p5), .val (.int ln), .val (.double u0), .second, .val (.double u1), .second, .val (.double u2), .second, .val (.double u3), .second, .val (.ref b1), .unset, .unset, .unset] [])) := by
        refine r41.trans ?_
        show Steps p.tables e below (T40.setTop (mkF m 76 #[.val (.int p1), .val (.int p2), .val (.int p3), .val (.int p4), .val (.int p5), .val (.int ln), .val (.double u0), .second, .val (.double u1), .second, .val (.double u2), .second, .val (.double u3), .second, .val (.ref b1), .unset, .unset, .unset] [])) _
        refine XS.iload X40.here hx rfl (hb hby at_76) rfl ?_
        show Steps p.tables e below (T40.setTop (mkF m 78 #[.val (.int p1), .val (.int p2), .val (.int p3), .val (.int p4), .val (.int p5), .val (.int ln), .val (.double u0), .second, .val (.double u1), .second, .val (.double u2), .second, .val (.double u3), .second, .val (.ref b1), .unset, .unset, .unset] [(.int ln)])) _
        refine XS.iconst X40.here hx rfl (hb hby at_78) ?_
        show Steps p.tables e below (T40.setTop (mkF m 79 #[.val (.int p1), .val (.int p2), .val (.int p3), .val (.int p4), .val (.int p5), .val (.int ln), .val (.double u0), .second, .val (.double u1), .second, .val (.double u2), .second, .val (.double u3), .second, .val (.ref b1), .unset, .unset, .unset] [(.int (3 : Int32)), (.int ln)])) _
        refine XS.icmpYes X40.here hx rfl (pc0 := 79) (pc' := 88) rfl (hb hby at_79) rfl (flt (by rw [hq] <;> decide)).2.2.2 (by decide) (by decide) ?_
        exact Steps.refl _
      refine ⟨T40, h40, _, X40, e40, N40, G40_b1.congr (fun i hi => ?_), Z40, r42⟩
      rw [hN] at hi
      have hi2 : i = 0 ∨ i = 1 ∨ i = 2 := by omega
      rcases hi2 with rfl | rfl | rfl <;> rfl
    · skip
      have hN : ln.toNatClampNeg = 4 := by rw [hq]; decide
      have r43 : Steps p.tables e below S0 (T19.setTop (mkF m 51 #[.val (.int p1), .val (.int p2), .val (.int p3), .val (.int p4), .val (.int p5), .val (.int ln), .val (.double u0), .second, .val (.double u1), .second, .val (.double u2), .second, .val (.double u3), .second, .val (.ref b1), .unset, .unset, .unset] [(.double u0), (.int (0 : Int32)), (.ref b1)])) := by
        refine r21.trans ?_
        show Steps p.tables e below (T19.setTop (mkF m 46 #[.val (.int p1), .val (.int p2), .val (.int p3), .val (.int p4), .val (.int p5), .val (.int ln), .val (.double u0), .second, .val (.double u1), .second, .val (.double u2), .second, .val (.double u3), .second, .val (.ref b1), .unset, .unset, .unset] [])) _
        refine XS.aload X19.here hx rfl (hb hby at_46) rfl rfl ?_
        show Steps p.tables e below (T19.setTop (mkF m 48 #[.val (.int p1), .val (.int p2), .val (.int p3), .val (.int p4), .val (.int p5), .val (.int ln), .val (.double u0), .second, .val (.double u1), .second, .val (.double u2), .second, .val (.double u3), .second, .val (.ref b1), .unset, .unset, .unset] [(.ref b1)])) _
        refine XS.iconst X19.here hx rfl (hb hby at_48) ?_
        show Steps p.tables e below (T19.setTop (mkF m 49 #[.val (.int p1), .val (.int p2), .val (.int p3), .val (.int p4), .val (.int p5), .val (.int ln), .val (.double u0), .second, .val (.double u1), .second, .val (.double u2), .second, .val (.double u3), .second, .val (.ref b1), .unset, .unset, .unset] [(.int (0 : Int32)), (.ref b1)])) _
        refine XS.dload X19.here hx rfl (hb hby at_49) rfl ?_
        exact Steps.refl _
      obtain ⟨T44, h44, X44, e44, W44, st44⟩ := stDG X19 hx hZ e19 G_b1 (j := (0 : Int32)) (by decide) (by rw [hN]; decide) (g := (mkF m 51 #[.val (.int p1), .val (.int p2), .val (.int p3), .val (.int p4), .val (.int p5), .val (.int ln), .val (.double u0), .second, .val (.double u1), .second, .val (.double u2), .second, .val (.double u3), .second, .val (.ref b1), .unset, .unset, .unset] [(.double u0), (.int (0 : Int32)), (.ref b1)])) rfl rfl (hb hby at_51)
      have N44 := Fr.snoc X44 N0 g_b1
      have G44_b1 := G_b1.set W44
      have Z44 : n0 ≤ h44.size := Nat.le_trans Z19 (Nat.le_of_eq W44.size.symm)
      have r45 : Steps p.tables e below S0 (T44.setTop (mkF m 52 #[.val (.int p1), .val (.int p2), .val (.int p3), .val (.int p4), .val (.int p5), .val (.int ln), .val (.double u0), .second, .val (.double u1), .second, .val (.double u2), .second, .val (.double u3), .second, .val (.ref b1), .unset, .unset, .unset] [])) := r43.trans (st44 _ (Steps.refl _))
      have r46 : Steps p.tables e below S0 (T44.setTop (mkF m 63 #[.val (.int p1), .val (.int p2), .val (.int p3), .val (.int p4), .val (.int p5), .val (.int ln), .val (.double u0), .second, .val (.double u1), .second, .val (.double u2), .second, .val (.double u3), .second, .val (.ref b1), .unset, .unset, .unset] [(.double u1), (.int (1 : Int32)), (.ref b1)])) := by
        refine r45.trans ?_
        show Steps p.tables e below (T44.setTop (mkF m 52 #[.val (.int p1), .val (.int p2), .val (.int p3), .val (.int p4), .val (.int p5), .val (.int ln), .val (.double u0), .second, .val (.double u1), .second, .val (.double u2), .second, .val (.double u3), .second, .val (.ref b1), .unset, .unset, .unset] [])) _
        refine XS.iload X44.here hx rfl (hb hby at_52) rfl ?_
        show Steps p.tables e below (T44.setTop (mkF m 54 #[.val (.int p1), .val (.int p2), .val (.int p3), .val (.int p4), .val (.int p5), .val (.int ln), .val (.double u0), .second, .val (.double u1), .second, .val (.double u2), .second, .val (.double u3), .second, .val (.ref b1), .unset, .unset, .unset] [(.int ln)])) _
        refine XS.iconst X44.here hx rfl (hb hby at_54) ?_
        show Steps p.tables e below (T44.setTop (mkF m 55 #[.val (.int p1), .val (.int p2), .val (.int p3), .val (.int p4), .val (.int p5), .val (.int ln), .val (.double u0), .second, .val (.double u1), .second, .val (.double u2), .second, .val (.double u3), .second, .val (.ref b1), .unset, .unset, .unset] [(.int (1 : Int32)), (.int ln)])) _
        refine XS.icmpNo X44.here hx rfl (hb hby at_55) rfl (tlt (by rw [hq] <;> decide)).2.2.2 ?_
        show Steps p.tables e below (T44.setTop (mkF m 58 #[.val (.int p1), .val (.int p2), .val (.int p3), .val (.int p4), .val (.int p5), .val (.int ln), .val (.double u0), .second, .val (.double u1), .second, .val (.double u2), .second, .val (.double u3), .second, .val (.ref b1), .unset, .unset, .unset] [])) _
        refine XS.aload X44.here hx rfl (hb hby at_58) rfl rfl ?_
        show Steps p.tables e below (T44.setTop (mkF m 60 #[.val (.int p1), .val (.int p2), .val (.int p3), .val (.int p4), .val (.int p5), .val (.int ln), .val (.double u0), .second, .val (.double u1), .second, .val (.double u2), .second, .val (.double u3), .second, .val (.ref b1), .unset, .unset, .unset] [(.ref b1)])) _
        refine XS.iconst X44.here hx rfl (hb hby at_60) ?_
        show Steps p.tables e below (T44.setTop (mkF m 61 #[.val (.int p1), .val (.int p2), .val (.int p3), .val (.int p4), .val (.int p5), .val (.int ln), .val (.double u0), .second, .val (.double u1), .second, .val (.double u2), .second, .val (.double u3), .second, .val (.ref b1), .unset, .unset, .unset] [(.int (1 : Int32)), (.ref b1)])) _
        refine XS.dload X44.here hx rfl (hb hby at_61) rfl ?_
        exact Steps.refl _
      obtain ⟨T47, h47, X47, e47, W47, st47⟩ := stDG X44 hx hZ e44 G44_b1 (j := (1 : Int32)) (by decide) (by rw [hN]; decide) (g := (mkF m 63 #[.val (.int p1), .val (.int p2), .val (.int p3), .val (.int p4), .val (.int p5), .val (.int ln), .val (.double u0), .second, .val (.double u1), .second, .val (.double u2), .second, .val (.double u3), .second, .val (.ref b1), .unset, .unset, .unset] [(.double u1), (.int (1 : Int32)), (.ref b1)])) rfl rfl (hb hby at_63)
      have N47 := Fr.snoc X47 N44 g_b1
      have G47_b1 := G44_b1.set W47
      have Z47 : n0 ≤ h47.size := Nat.le_trans Z44 (Nat.le_of_eq W47.size.symm)
      have r48 : Steps p.tables e below S0 (T47.setTop (mkF m 64 #[.val (.int p1), .val (.int p2), .val (.int p3), .val (.int p4), .val (.int p5), .val (.int ln), .val (.double u0), .second, .val (.double u1), .second, .val (.double u2), .second, .val (.double u3), .second, .val (.ref b1), .unset, .unset, .unset] [])) := r46.trans (st47 _ (Steps.refl _))
      have r49 : Steps p.tables e below S0 (T47.setTop (mkF m 75 #[.val (.int p1), .val (.int p2), .val (.int p3), .val (.int p4), .val (.int p5), .val (.int ln), .val (.double u0), .second, .val (.double u1), .second, .val (.double u2), .second, .val (.double u3), .second, .val (.ref b1), .unset, .unset, .unset] [(.double u2), (.int (2 : Int32)), (.ref b1)])) := by
        refine r48.trans ?_
        show Steps p.tables e below (T47.setTop (mkF m 64 #[.val (.int p1), .val (.int p2), .val (.int p3), .val (.int p4), .val (.int p5), .val (.int ln), .val (.double u0), .second, .val (.double u1), .second, .val (.double u2), .second, .val (.double u3), .second, .val (.ref b1), .unset, .unset, .unset] [])) _
        refine XS.iload X47.here hx rfl (hb hby at_64) rfl ?_
        show Steps p.tables e below (T47.setTop (mkF m 66 #[.val (.int p1), .val (.int p2), .val (.int p3), .val (.int p4), .val (.int p5), .val (.int ln), .val (.double u0), .second, .val (.double u1), .second, .val (.double u2), .second, .val (.double u3), .second, .val (.ref b1), .unset, .unset, .unset] [(.int ln)])) _
        refine XS.iconst X47.here hx rfl (hb hby at_66) ?_
        show Steps p.tables e below (T47.setTop (mkF m 67 #[.val (.int p1), .val (.int p2), .val (.int p3), .val (.int p4), .val (.int p5), .val (.int ln), .val (.double u0), .second, .val (.double u1), .second, .val (.double u2), .second, .val (.double u3), .second, .val (.ref b1), .unset, .unset, .unset] [(.int (2 : Int32)), (.int ln)])) _
        refine XS.icmpNo X47.here hx rfl (hb hby at_67) rfl (tlt (by rw [hq] <;> decide)).2.2.2 ?_
        show Steps p.tables e below (T47.setTop (mkF m 70 #[.val (.int p1), .val (.int p2), .val (.int p3), .val (.int p4), .val (.int p5), .val (.int ln), .val (.double u0), .second, .val (.double u1), .second, .val (.double u2), .second, .val (.double u3), .second, .val (.ref b1), .unset, .unset, .unset] [])) _
        refine XS.aload X47.here hx rfl (hb hby at_70) rfl rfl ?_
        show Steps p.tables e below (T47.setTop (mkF m 72 #[.val (.int p1), .val (.int p2), .val (.int p3), .val (.int p4), .val (.int p5), .val (.int ln), .val (.double u0), .second, .val (.double u1), .second, .val (.double u2), .second, .val (.double u3), .second, .val (.ref b1), .unset, .unset, .unset] [(.ref b1)])) _
        refine XS.iconst X47.here hx rfl (hb hby at_72) ?_
        show Steps p.tables e below (T47.setTop (mkF m 73 #[.val (.int p1), .val (.int p2), .val (.int p3), .val (.int p4), .val (.int p5), .val (.int ln), .val (.double u0), .second, .val (.double u1), .second, .val (.double u2), .second, .val (.double u3), .second, .val (.ref b1), .unset, .unset, .unset] [(.int (2 : Int32)), (.ref b1)])) _
        refine XS.dload X47.here hx rfl (hb hby at_73) rfl ?_
        exact Steps.refl _
      obtain ⟨T50, h50, X50, e50, W50, st50⟩ := stDG X47 hx hZ e47 G47_b1 (j := (2 : Int32)) (by decide) (by rw [hN]; decide) (g := (mkF m 75 #[.val (.int p1), .val (.int p2), .val (.int p3), .val (.int p4), .val (.int p5), .val (.int ln), .val (.double u0), .second, .val (.double u1), .second, .val (.double u2), .second, .val (.double u3), .second, .val (.ref b1), .unset, .unset, .unset] [(.double u2), (.int (2 : Int32)), (.ref b1)])) rfl rfl (hb hby at_75)
      have N50 := Fr.snoc X50 N47 g_b1
      have G50_b1 := G47_b1.set W50
      have Z50 : n0 ≤ h50.size := Nat.le_trans Z47 (Nat.le_of_eq W50.size.symm)
      have r51 : Steps p.tables e below S0 (T50.setTop (mkF m 76 #[.val (.int p1), .val (.int p2), .val (.int p3), .val (.int p4), .val (.int p5), .val (.int ln), .val (.double u0), .second, .val (.double u1), .second, .val (.double u2), .second, .val (.double u3), .second, .val (.ref b1), .unset, .unset, .unset] [])) := r49.trans (st50 _ (Steps.refl _))
      have r52 : Steps p.tables e below S0 (T50.setTop (mkF m 87 #[.val (.int p1), .val (.int p2), .val (.int p3), .val (.int p4), .val (.int p5), .val (.int ln), .val (.double u0), .second, .val (.double u1), .second, .val (.double u2), .second, .val (.double u3), .second, .val (.ref b1), .unset, .unset, .unset] [(.double u3), (.int (3 : Int32)), (.ref b1)])) := by
        refine r51.trans ?_
        show Steps p.tables e below (T50.setTop (mkF m 76 #[.val (.int p1), .val (.int p2), .val (.int p3), .val (.int p4), .val (.int p5), .val (.int ln), .val (.double u0), .second, .val (.double u1), .second, .val (.double u2), .second, .val (.double u3), .second, .val (.ref b1), .unset, .unset, .unset] [])) _
        refine XS.iload X50.here hx rfl (hb hby at_76) rfl ?_
        show Steps p.tables e below (T50.setTop (mkF m 78 #[.val (.int p1), .val (.int p2), .val (.int p3), .val (.int p4), .val (.int p5), .val (.int ln), .val (.double u0), .second, .val (.double u1), .second, .val (.double u2), .second, .val (.double u3), .second, .val (.ref b1), .unset, .unset, .unset] [(.int ln)])) _
        refine XS.iconst X50.here hx rfl (hb hby at_78) ?_
        show Steps p.tables e below (T50.setTop (mkF m 79 #[.val (.int p1), .val (.int p2), .val (.int p3), .val (.int p4), .val (.int p5), .val (.int ln), .val (.double u0), .second, .val (.double u1), .second, .val (.double u2), .second, .val (.double u3), .second, .val (.ref b1), .unset, .unset, .unset] [(.int (3 : Int32)), (.int ln)])) _
        refine XS.icmpNo X50.here hx rfl (hb hby at_79) rfl (tlt (by rw [hq] <;> decide)).2.2.2 ?_
        show Steps p.tables e below (T50.setTop (mkF m 82 #[.val (.int p1), .val (.int p2), .val (.int p3), .val (.int p4), .val (.int p5), .val (.int ln), .val (.double u0), .second, .val (.double u1), .second, .val (.double u2), .second, .val (.double u3), .second, .val (.ref b1), .unset, .unset, .unset] [])) _
        refine XS.aload X50.here hx rfl (hb hby at_82) rfl rfl ?_
        show Steps p.tables e below (T50.setTop (mkF m 84 #[.val (.int p1), .val (.int p2), .val (.int p3), .val (.int p4), .val (.int p5), .val (.int ln), .val (.double u0), .second, .val (.double u1), .second, .val (.double u2), .second, .val (.double u3), .second, .val (.ref b1), .unset, .unset, .unset] [(.ref b1)])) _
        refine XS.iconst X50.here hx rfl (hb hby at_84) ?_
        show Steps p.tables e below (T50.setTop (mkF m 85 #[.val (.int p1), .val (.int p2), .val (.int p3), .val (.int p4), .val (.int p5), .val (.int ln), .val (.double u0), .second, .val (.double u1), .second, .val (.double u2), .second, .val (.double u3), .second, .val (.ref b1), .unset, .unset, .unset] [(.int (3 : Int32)), (.ref b1)])) _
        refine XS.dload X50.here hx rfl (hb hby at_85) rfl ?_
        exact Steps.refl _
      obtain ⟨T53, h53, X53, e53, W53, st53⟩ := stDG X50 hx hZ e50 G50_b1 (j := (3 : Int32)) (by decide) (by rw [hN]; decide) (g := (mkF m 87 #[.val (.int p1), .val (.int p2), .val (.int p3), .val (.int p4), .val (.int p5), .val (.int ln), .val (.double u0), .second, .val (.double u1), .second, .val (.double u2), .second, .val (.double u3), .second, .val (.ref b1), .unset, .unset, .unset] [(.double u3), (.int (3 : Int32)), (.ref b1)])) rfl rfl (hb hby at_87)
      have N53 := Fr.snoc X53 N50 g_b1
      have G53_b1 := G50_b1.set W53
      have Z53 : n0 ≤ h53.size := Nat.le_trans Z50 (Nat.le_of_eq W53.size.symm)
      have r54 : Steps p.tables e below S0 (T53.setTop (mkF m 88 #[.val (.int p1), .val (.int p2), .val (.int p3), .val (.int p4), .val (.int p5), .val (.int ln), .val (.double u0), .second, .val (.double u1), .second, .val (.double u2), .second, .val (.double u3), .second, .val (.ref b1), .unset, .unset, .unset] [])) := r52.trans (st53 _ (Steps.refl _))
      refine ⟨T53, h53, _, X53, e53, N53, G53_b1.congr (fun i hi => ?_), Z53, r54⟩
      rw [hN] at hi
      have hi2 : i = 0 ∨ i = 1 ∨ i = 2 ∨ i = 3 := by omega
      rcases hi2 with rfl | rfl | rfl | rfl <;> rfl
  have hy : ∀ i : Nat, (i : Int) < ln.toInt → Dy ((own_g p2 p3 p4 p5) i) 0 (own_f u0 u1 u2 u3 i) := fun i _ => by subst hu0 hu1 hu2 hu3; exact own_fg p2 p3 p4 p5 i
  have r55 : Steps p.tables e below S0 (TM.setTop (mkF m 90 #[.val (.int p1), .val (.int p2), .val (.int p3), .val (.int p4), .val (.int p5), .val (.int ln), .val (.double u0), .second, .val (.double u1), .second, .val (.double u2), .second, .val (.double u3), .second, .val (.ref b1), .unset, .unset, .unset] [(.ref b1)])) := by
    refine rM.trans ?_
    show Steps p.tables e below (TM.setTop (mkF m 88 #[.val (.int p1), .val (.int p2), .val (.int p3), .val (.int p4), .val (.int p5), .val (.int ln), .val (.double u0), .second, .val (.double u1), .second, .val (.double u2), .second, .val (.double u3), .second, .val (.ref b1), .unset, .unset, .unset] [])) _
    refine XS.aload XM.here hx rfl (hb hby at_88) rfl rfl ?_
    exact Steps.refl _
  obtain ⟨_, _, ⟨T56, L56, k56, n56⟩, -, X56, ⟨Lc56, hQ56, l56, y56, z56⟩, st56⟩ := Jvm.LawKit.callS XM hx (y := (⟨"com/example/orrery/orrery/learning/Model", "predictedClass", "([D)I"⟩ : MethodName)) hown (mvT hZ (hw _ (List.mem_of_getElem? (i := 1) rfl))) (mvT hZ (hw _ (List.mem_of_getElem? (i := 2) rfl))) (mvT hZ (hw _ (List.mem_of_getElem? (i := 3) rfl))) (mvT hZ (hw _ (List.mem_of_getElem? (i := 4) rfl))) (by decide) (backOf (W := 0) (rm1 l Z a0 hw [] b1 ln (own_f u0 u1 u2 u3) (own_g p2 p3 p4 p5) hM n0 ZM GM hlp hy) hZ (hw _ (List.mem_of_getElem? (i := 4) rfl)) (hw _ (List.mem_of_getElem? (i := 3) rfl)) (by decide) (by decide)) (g := (mkF m 90 #[.val (.int p1), .val (.int p2), .val (.int p3), .val (.int p4), .val (.int p5), .val (.int ln), .val (.double u0), .second, .val (.double u1), .second, .val (.double u2), .second, .val (.double u3), .second, .val (.ref b1), .unset, .unset, .unset] [(.ref b1)])) rfl (by rw [hml]; rfl) (argsL := [(.ref b1)]) (rest := []) (lenOf pd_0 rfl) rfl (by show 2 * 0 + _ ≤ _; exact Nat.le_of_eq rfl) (hb hby at_90) (fun _ _ => ⟨rfl, eM, (by decide : (0 + 1) + 0 ≤ _), (by decide : (0 + 4) + 0 ≤ _)⟩)
  dsimp only [Pt.U, Pt.locs, Pt.cells, Pt.slots] at X56 l56 y56 z56 st56 hQ56
  subst l56 y56 z56
  obtain ⟨r, rfl, j1, j2, j3, j4, Nq56, e56⟩ := hQ56
  have N56 := Fr.app NM Nq56
  have r57 : Steps p.tables e below S0 (T56.setTop (mkF m 93 #[.val (.int p1), .val (.int p2), .val (.int p3), .val (.int p4), .val (.int p5), .val (.int ln), .val (.double u0), .second, .val (.double u1), .second, .val (.double u2), .second, .val (.double u3), .second, .val (.ref b1), .unset, .unset, .unset] [(.int r)])) := r55.trans (st56 _ (Steps.refl _))
  have r0 : ¬ r < 0 := fun q => by have := Int32.lt_iff_toInt_lt.mp q; rw [show (0 : Int32).toInt = 0 by decide] at this; omega
  have rl : r < ln := Int32.lt_iff_toInt_lt.mpr j2
  have tr : (r.toNatClampNeg : Int) = r.toInt := Int.toNat_of_nonneg j1
  have tl : (ln.toNatClampNeg : Int) = ln.toInt := Int.toNat_of_nonneg (by omega)
  have r58 : Steps p.tables e below S0 (T56.setTop (mkF m 114 #[.val (.int p1), .val (.int p2), .val (.int p3), .val (.int p4), .val (.int p5), .val (.int ln), .val (.double u0), .second, .val (.double u1), .second, .val (.double u2), .second, .val (.double u3), .second, .val (.ref b1), .val (.int r), .unset, .unset] [(.double (own_f u0 u1 u2 u3 r.toNatClampNeg))])) := by
    refine r57.trans ?_
    show Steps p.tables e below (T56.setTop (mkF m 93 #[.val (.int p1), .val (.int p2), .val (.int p3), .val (.int p4), .val (.int p5), .val (.int ln), .val (.double u0), .second, .val (.double u1), .second, .val (.double u2), .second, .val (.double u3), .second, .val (.ref b1), .unset, .unset, .unset] [(.int r)])) _
    refine XS.istore X56.here hx rfl (hb hby at_93) rfl (l' := #[.val (.int p1), .val (.int p2), .val (.int p3), .val (.int p4), .val (.int p5), .val (.int ln), .val (.double u0), .second, .val (.double u1), .second, .val (.double u2), .second, .val (.double u3), .second, .val (.ref b1), .val (.int r), .unset, .unset]) rfl ?_
    show Steps p.tables e below (T56.setTop (mkF m 95 #[.val (.int p1), .val (.int p2), .val (.int p3), .val (.int p4), .val (.int p5), .val (.int ln), .val (.double u0), .second, .val (.double u1), .second, .val (.double u2), .second, .val (.double u3), .second, .val (.ref b1), .val (.int r), .unset, .unset] [])) _
    refine XS.iload X56.here hx rfl (hb hby at_95) rfl ?_
    show Steps p.tables e below (T56.setTop (mkF m 97 #[.val (.int p1), .val (.int p2), .val (.int p3), .val (.int p4), .val (.int p5), .val (.int ln), .val (.double u0), .second, .val (.double u1), .second, .val (.double u2), .second, .val (.double u3), .second, .val (.ref b1), .val (.int r), .unset, .unset] [(.int r)])) _
    refine XS.ifNo X56.here hx rfl (hb hby at_97) rfl ((if0 _ _).trans (flt r0).1) ?_
    show Steps p.tables e below (T56.setTop (mkF m 100 #[.val (.int p1), .val (.int p2), .val (.int p3), .val (.int p4), .val (.int p5), .val (.int ln), .val (.double u0), .second, .val (.double u1), .second, .val (.double u2), .second, .val (.double u3), .second, .val (.ref b1), .val (.int r), .unset, .unset] [])) _
    refine XS.iload X56.here hx rfl (hb hby at_100) rfl ?_
    show Steps p.tables e below (T56.setTop (mkF m 102 #[.val (.int p1), .val (.int p2), .val (.int p3), .val (.int p4), .val (.int p5), .val (.int ln), .val (.double u0), .second, .val (.double u1), .second, .val (.double u2), .second, .val (.double u3), .second, .val (.ref b1), .val (.int r), .unset, .unset] [(.int r)])) _
    refine XS.iload X56.here hx rfl (hb hby at_102) rfl ?_
    show Steps p.tables e below (T56.setTop (mkF m 104 #[.val (.int p1), .val (.int p2), .val (.int p3), .val (.int p4), .val (.int p5), .val (.int ln), .val (.double u0), .second, .val (.double u1), .second, .val (.double u2), .second, .val (.double u3), .second, .val (.ref b1), .val (.int r), .unset, .unset] [(.int ln), (.int r)])) _
    refine XS.icmpYes X56.here hx rfl (pc0 := 104) (pc' := 109) rfl (hb hby at_104) rfl (tlt rl).1 (by decide) (by decide) ?_
    show Steps p.tables e below (T56.setTop (mkF m 109 #[.val (.int p1), .val (.int p2), .val (.int p3), .val (.int p4), .val (.int p5), .val (.int ln), .val (.double u0), .second, .val (.double u1), .second, .val (.double u2), .second, .val (.double u3), .second, .val (.ref b1), .val (.int r), .unset, .unset] [])) _
    refine XS.aload X56.here hx rfl (hb hby at_109) rfl rfl ?_
    show Steps p.tables e below (T56.setTop (mkF m 111 #[.val (.int p1), .val (.int p2), .val (.int p3), .val (.int p4), .val (.int p5), .val (.int ln), .val (.double u0), .second, .val (.double u1), .second, .val (.double u2), .second, .val (.double u3), .second, .val (.ref b1), .val (.int r), .unset, .unset] [(.ref b1)])) _
    refine XS.iload X56.here hx rfl (hb hby at_111) rfl ?_
    show Steps p.tables e below (T56.setTop (mkF m 113 #[.val (.int p1), .val (.int p2), .val (.int p3), .val (.int p4), .val (.int p5), .val (.int ln), .val (.double u0), .second, .val (.double u1), .second, .val (.double u2), .second, .val (.double u3), .second, .val (.ref b1), .val (.int r), .unset, .unset] [(.int r), (.ref b1)])) _
    refine ldD X56 hx hZ e56 GM (j := r) r0 (by omega) (v := (.double (own_f u0 u1 u2 u3 r.toNatClampNeg))) rfl (g := (mkF m 113 #[.val (.int p1), .val (.int p2), .val (.int p3), .val (.int p4), .val (.int p5), .val (.int ln), .val (.double u0), .second, .val (.double u1), .second, .val (.double u2), .second, .val (.double u3), .second, .val (.ref b1), .val (.int r), .unset, .unset] [(.int r), (.ref b1)])) rfl rfl (hb hby at_113) _ ?_
    exact Steps.refl _
  obtain ⟨bb, hbb⟩ : ∃ z, z = (own_f u0 u1 u2 u3 r.toNatClampNeg) := ⟨_, rfl⟩
  have r59 : Steps p.tables e below S0 (T56.setTop (mkF m 114 #[.val (.int p1), .val (.int p2), .val (.int p3), .val (.int p4), .val (.int p5), .val (.int ln), .val (.double u0), .second, .val (.double u1), .second, .val (.double u2), .second, .val (.double u3), .second, .val (.ref b1), .val (.int r), .unset, .unset] [(.double bb)])) := by rw [hbb]; exact r58
  have yb : Dy ((own_g p2 p3 p4 p5) r.toNatClampNeg) 0 bb := by rw [hbb]; exact hy _ (by omega)
  have y0 : Dy ((own_g p2 p3 p4 p5) 0) 0 u0 := by rw [hu0]; exact Dy.i2d _
  have ff0 : (0 : Int32) < ln → (own_g p2 p3 p4 p5) 0 ≤ (own_g p2 p3 p4 p5) r.toNatClampNeg ∧ ((0 : Int32) < r → (own_g p2 p3 p4 p5) 0 ≠ (own_g p2 p3 p4 p5) r.toNatClampNeg) := fun q => ⟨j3 0 (by have := Int32.lt_iff_toInt_lt.mp q; rw [show (0 : Int32).toInt = 0 by decide] at this; omega), fun q2 => Int.ne_of_lt (j4 0 (by have := Int32.lt_iff_toInt_lt.mp q2; rw [show (0 : Int32).toInt = 0 by decide] at this; omega))⟩
  have r60 : Steps p.tables e below S0 (T56.setTop (mkF m 125 #[.val (.int p1), .val (.int p2), .val (.int p3), .val (.int p4), .val (.int p5), .val (.int ln), .val (.double u0), .second, .val (.double u1), .second, .val (.double u2), .second, .val (.double u3), .second, .val (.ref b1), .val (.int r), .val (.double bb), .second] [(.double bb), (.double u0), (.int r), (.int ln), (.int (0 : Int32))])) := by
    refine r59.trans ?_
    show Steps p.tables e below (T56.setTop (mkF m 114 #[.val (.int p1), .val (.int p2), .val (.int p3), .val (.int p4), .val (.int p5), .val (.int ln), .val (.double u0), .second, .val (.double u1), .second, .val (.double u2), .second, .val (.double u3), .second, .val (.ref b1), .val (.int r), .unset, .unset] [(.double bb)])) _
    refine XS.dstore X56.here hx rfl (hb hby at_114) rfl (l' := #[.val (.int p1), .val (.int p2), .val (.int p3), .val (.int p4), .val (.int p5), .val (.int ln), .val (.double u0), .second, .val (.double u1), .second, .val (.double u2), .second, .val (.double u3), .second, .val (.ref b1), .val (.int r), .val (.double bb), .second]) rfl ?_
    show Steps p.tables e below (T56.setTop (mkF m 116 #[.val (.int p1), .val (.int p2), .val (.int p3), .val (.int p4), .val (.int p5), .val (.int ln), .val (.double u0), .second, .val (.double u1), .second, .val (.double u2), .second, .val (.double u3), .second, .val (.ref b1), .val (.int r), .val (.double bb), .second] [])) _
    refine XS.iconst X56.here hx rfl (hb hby at_116) ?_
    show Steps p.tables e below (T56.setTop (mkF m 117 #[.val (.int p1), .val (.int p2), .val (.int p3), .val (.int p4), .val (.int p5), .val (.int ln), .val (.double u0), .second, .val (.double u1), .second, .val (.double u2), .second, .val (.double u3), .second, .val (.ref b1), .val (.int r), .val (.double bb), .second] [(.int (0 : Int32))])) _
    refine XS.iload X56.here hx rfl (hb hby at_117) rfl ?_
    show Steps p.tables e below (T56.setTop (mkF m 119 #[.val (.int p1), .val (.int p2), .val (.int p3), .val (.int p4), .val (.int p5), .val (.int ln), .val (.double u0), .second, .val (.double u1), .second, .val (.double u2), .second, .val (.double u3), .second, .val (.ref b1), .val (.int r), .val (.double bb), .second] [(.int ln), (.int (0 : Int32))])) _
    refine XS.iload X56.here hx rfl (hb hby at_119) rfl ?_
    show Steps p.tables e below (T56.setTop (mkF m 121 #[.val (.int p1), .val (.int p2), .val (.int p3), .val (.int p4), .val (.int p5), .val (.int ln), .val (.double u0), .second, .val (.double u1), .second, .val (.double u2), .second, .val (.double u3), .second, .val (.ref b1), .val (.int r), .val (.double bb), .second] [(.int r), (.int ln), (.int (0 : Int32))])) _
    refine XS.dload X56.here hx rfl (hb hby at_121) rfl ?_
    show Steps p.tables e below (T56.setTop (mkF m 123 #[.val (.int p1), .val (.int p2), .val (.int p3), .val (.int p4), .val (.int p5), .val (.int ln), .val (.double u0), .second, .val (.double u1), .second, .val (.double u2), .second, .val (.double u3), .second, .val (.ref b1), .val (.int r), .val (.double bb), .second] [(.double u0), (.int r), (.int ln), (.int (0 : Int32))])) _
    refine XS.dload X56.here hx rfl (hb hby at_123) rfl ?_
    exact Steps.refl _
  obtain ⟨_, _, ⟨T61, L61, k61, n61⟩, -, X61, ⟨Lc61, hQ61, l61, y61, z61⟩, st61⟩ := Jvm.LawKit.callS X56 hx (y := (⟨"com/example/orrery/orrery/learning/ModelPredictedClassPinLaw", "fits", "(IIIDD)Z"⟩ : MethodName)) hown (mvT hZ (hw _ (List.mem_of_getElem? (i := 5) rfl))) (mvT hZ (hw _ (List.mem_of_getElem? (i := 6) rfl))) (mvT hZ (hw _ (List.mem_of_getElem? (i := 7) rfl))) (mvT hZ (hw _ (List.mem_of_getElem? (i := 8) rfl))) (by decide) (backOf (W := 0) (rm2 l Z a0 hw [] (0 : Int32) ln r u0 bb ((own_g p2 p3 p4 p5) 0) ((own_g p2 p3 p4 p5) r.toNatClampNeg) hM n0 ZM y0 yb ff0) hZ (hw _ (List.mem_of_getElem? (i := 8) rfl)) (hw _ (List.mem_of_getElem? (i := 7) rfl)) (by decide) (by decide)) (g := (mkF m 125 #[.val (.int p1), .val (.int p2), .val (.int p3), .val (.int p4), .val (.int p5), .val (.int ln), .val (.double u0), .second, .val (.double u1), .second, .val (.double u2), .second, .val (.double u3), .second, .val (.ref b1), .val (.int r), .val (.double bb), .second] [(.double bb), (.double u0), (.int r), (.int ln), (.int (0 : Int32))])) rfl (by rw [hml]; rfl) (argsL := [(.int (0 : Int32)), (.int ln), (.int r), (.double u0), (.double bb)]) (rest := []) (lenOf pd_1 rfl) rfl (by show 2 * 0 + _ ≤ _; exact Nat.le_of_eq rfl) (hb hby at_125) (fun _ _ => ⟨rfl, e56, (by decide : ((0 + 1) + 0) + 0 ≤ _), (by decide : ((0 + 4) + 0) + 0 ≤ _)⟩)
  dsimp only [Pt.U, Pt.locs, Pt.cells, Pt.slots] at X61 l61 y61 z61 st61 hQ61
  subst l61 y61 z61
  obtain ⟨rfl, Nq61, e61⟩ := hQ61
  have N61 := Fr.app N56 Nq61
  have r62 : Steps p.tables e below S0 (T61.setTop (mkF m 128 #[.val (.int p1), .val (.int p2), .val (.int p3), .val (.int p4), .val (.int p5), .val (.int ln), .val (.double u0), .second, .val (.double u1), .second, .val (.double u2), .second, .val (.double u3), .second, .val (.ref b1), .val (.int r), .val (.double bb), .second] [(.int (1 : Int32))])) := r60.trans (st61 _ (Steps.refl _))
  have y1 : Dy ((own_g p2 p3 p4 p5) 1) 0 u1 := by rw [hu1]; exact Dy.i2d _
  have ff1 : (1 : Int32) < ln → (own_g p2 p3 p4 p5) 1 ≤ (own_g p2 p3 p4 p5) r.toNatClampNeg ∧ ((1 : Int32) < r → (own_g p2 p3 p4 p5) 1 ≠ (own_g p2 p3 p4 p5) r.toNatClampNeg) := fun q => ⟨j3 1 (by have := Int32.lt_iff_toInt_lt.mp q; rw [show (1 : Int32).toInt = 1 by decide] at this; omega), fun q2 => Int.ne_of_lt (j4 1 (by have := Int32.lt_iff_toInt_lt.mp q2; rw [show (1 : Int32).toInt = 1 by decide] at this; omega))⟩
  have r63 : Steps p.tables e below S0 (T61.setTop (mkF m 140 #[.val (.int p1), .val (.int p2), .val (.int p3), .val (.int p4), .val (.int p5), .val (.int ln), .val (.double u0), .second, .val (.double u1), .second, .val (.double u2), .second, .val (.double u3), .second, .val (.ref b1), .val (.int r), .val (.double bb), .second] [(.double bb), (.double u1), (.int r), (.int ln), (.int (1 : Int32))])) := by
    refine r62.trans ?_
    show Steps p.tables e below (T61.setTop (mkF m 128 #[.val (.int p1), .val (.int p2), .val (.int p3), .val (.int p4), .val (.int p5), .val (.int ln), .val (.double u0), .second, .val (.double u1), .second, .val (.double u2), .second, .val (.double u3), .second, .val (.ref b1), .val (.int r), .val (.double bb), .second] [(.int (1 : Int32))])) _
    refine XS.ifNo X61.here hx rfl (hb hby at_128) rfl ((if0 _ _).trans (feq (by decide)).1) ?_
    show Steps p.tables e below (T61.setTop (mkF m 131 #[.val (.int p1), .val (.int p2), .val (.int p3), .val (.int p4), .val (.int p5), .val (.int ln), .val (.double u0), .second, .val (.double u1), .second, .val (.double u2), .second, .val (.double u3), .second, .val (.ref b1), .val (.int r), .val (.double bb), .second] [])) _
    refine XS.iconst X61.here hx rfl (hb hby at_131) ?_
    show Steps p.tables e below (T61.setTop (mkF m 132 #[.val (.int p1), .val (.int p2), .val (.int p3), .val (.int p4), .val (.int p5), .val (.int ln), .val (.double u0), .second, .val (.double u1), .second, .val (.double u2), .second, .val (.double u3), .second, .val (.ref b1), .val (.int r), .val (.double bb), .second] [(.int (1 : Int32))])) _
    refine XS.iload X61.here hx rfl (hb hby at_132) rfl ?_
    show Steps p.tables e below (T61.setTop (mkF m 134 #[.val (.int p1), .val (.int p2), .val (.int p3), .val (.int p4), .val (.int p5), .val (.int ln), .val (.double u0), .second, .val (.double u1), .second, .val (.double u2), .second, .val (.double u3), .second, .val (.ref b1), .val (.int r), .val (.double bb), .second] [(.int ln), (.int (1 : Int32))])) _
    refine XS.iload X61.here hx rfl (hb hby at_134) rfl ?_
    show Steps p.tables e below (T61.setTop (mkF m 136 #[.val (.int p1), .val (.int p2), .val (.int p3), .val (.int p4), .val (.int p5), .val (.int ln), .val (.double u0), .second, .val (.double u1), .second, .val (.double u2), .second, .val (.double u3), .second, .val (.ref b1), .val (.int r), .val (.double bb), .second] [(.int r), (.int ln), (.int (1 : Int32))])) _
    refine XS.dload X61.here hx rfl (hb hby at_136) rfl ?_
    show Steps p.tables e below (T61.setTop (mkF m 138 #[.val (.int p1), .val (.int p2), .val (.int p3), .val (.int p4), .val (.int p5), .val (.int ln), .val (.double u0), .second, .val (.double u1), .second, .val (.double u2), .second, .val (.double u3), .second, .val (.ref b1), .val (.int r), .val (.double bb), .second] [(.double u1), (.int r), (.int ln), (.int (1 : Int32))])) _
    refine XS.dload X61.here hx rfl (hb hby at_138) rfl ?_
    exact Steps.refl _
  obtain ⟨_, _, ⟨T64, L64, k64, n64⟩, -, X64, ⟨Lc64, hQ64, l64, y64, z64⟩, st64⟩ := Jvm.LawKit.callS X61 hx (y := (⟨"com/example/orrery/orrery/learning/ModelPredictedClassPinLaw", "fits", "(IIIDD)Z"⟩ : MethodName)) hown (mvT hZ (hw _ (List.mem_of_getElem? (i := 5) rfl))) (mvT hZ (hw _ (List.mem_of_getElem? (i := 6) rfl))) (mvT hZ (hw _ (List.mem_of_getElem? (i := 7) rfl))) (mvT hZ (hw _ (List.mem_of_getElem? (i := 8) rfl))) (by decide) (backOf (W := 0) (rm2 l Z a0 hw [] (1 : Int32) ln r u1 bb ((own_g p2 p3 p4 p5) 1) ((own_g p2 p3 p4 p5) r.toNatClampNeg) hM n0 ZM y1 yb ff1) hZ (hw _ (List.mem_of_getElem? (i := 8) rfl)) (hw _ (List.mem_of_getElem? (i := 7) rfl)) (by decide) (by decide)) (g := (mkF m 140 #[.val (.int p1), .val (.int p2), .val (.int p3), .val (.int p4), .val (.int p5), .val (.int ln), .val (.double u0), .second, .val (.double u1), .second, .val (.double u2), .second, .val (.double u3), .second, .val (.ref b1), .val (.int r), .val (.double bb), .second] [(.double bb), (.double u1), (.int r), (.int ln), (.int (1 : Int32))])) rfl (by rw [hml]; rfl) (argsL := [(.int (1 : Int32)), (.int ln), (.int r), (.double u1), (.double bb)]) (rest := []) (lenOf pd_1 rfl) rfl (by show 2 * 0 + _ ≤ _; exact Nat.le_of_eq rfl) (hb hby at_140) (fun _ _ => ⟨rfl, e61, (by decide : (((0 + 1) + 0) + 0) + 0 ≤ _), (by decide : (((0 + 4) + 0) + 0) + 0 ≤ _)⟩)
  dsimp only [Pt.U, Pt.locs, Pt.cells, Pt.slots] at X64 l64 y64 z64 st64 hQ64
  subst l64 y64 z64
  obtain ⟨rfl, Nq64, e64⟩ := hQ64
  have N64 := Fr.app N61 Nq64
  have r65 : Steps p.tables e below S0 (T64.setTop (mkF m 143 #[.val (.int p1), .val (.int p2), .val (.int p3), .val (.int p4), .val (.int p5), .val (.int ln), .val (.double u0), .second, .val (.double u1), .second, .val (.double u2), .second, .val (.double u3), .second, .val (.ref b1), .val (.int r), .val (.double bb), .second] [(.int (1 : Int32))])) := r63.trans (st64 _ (Steps.refl _))
  have y2 : Dy ((own_g p2 p3 p4 p5) 2) 0 u2 := by rw [hu2]; exact Dy.i2d _
  have ff2 : (2 : Int32) < ln → (own_g p2 p3 p4 p5) 2 ≤ (own_g p2 p3 p4 p5) r.toNatClampNeg ∧ ((2 : Int32) < r → (own_g p2 p3 p4 p5) 2 ≠ (own_g p2 p3 p4 p5) r.toNatClampNeg) := fun q => ⟨j3 2 (by have := Int32.lt_iff_toInt_lt.mp q; rw [show (2 : Int32).toInt = 2 by decide] at this; omega), fun q2 => Int.ne_of_lt (j4 2 (by have := Int32.lt_iff_toInt_lt.mp q2; rw [show (2 : Int32).toInt = 2 by decide] at this; omega))⟩
  have r66 : Steps p.tables e below S0 (T64.setTop (mkF m 155 #[.val (.int p1), .val (.int p2), .val (.int p3), .val (.int p4), .val (.int p5), .val (.int ln), .val (.double u0), .second, .val (.double u1), .second, .val (.double u2), .second, .val (.double u3), .second, .val (.ref b1), .val (.int r), .val (.double bb), .second] [(.double bb), (.double u2), (.int r), (.int ln), (.int (2 : Int32))])) := by
    refine r65.trans ?_
    show Steps p.tables e below (T64.setTop (mkF m 143 #[.val (.int p1), .val (.int p2), .val (.int p3), .val (.int p4), .val (.int p5), .val (.int ln), .val (.double u0), .second, .val (.double u1), .second, .val (.double u2), .second, .val (.double u3), .second, .val (.ref b1), .val (.int r), .val (.double bb), .second] [(.int (1 : Int32))])) _
    refine XS.ifNo X64.here hx rfl (hb hby at_143) rfl ((if0 _ _).trans (feq (by decide)).1) ?_
    show Steps p.tables e below (T64.setTop (mkF m 146 #[.val (.int p1), .val (.int p2), .val (.int p3), .val (.int p4), .val (.int p5), .val (.int ln), .val (.double u0), .second, .val (.double u1), .second, .val (.double u2), .second, .val (.double u3), .second, .val (.ref b1), .val (.int r), .val (.double bb), .second] [])) _
    refine XS.iconst X64.here hx rfl (hb hby at_146) ?_
    show Steps p.tables e below (T64.setTop (mkF m 147 #[.val (.int p1), .val (.int p2), .val (.int p3), .val (.int p4), .val (.int p5), .val (.int ln), .val (.double u0), .second, .val (.double u1), .second, .val (.double u2), .second, .val (.double u3), .second, .val (.ref b1), .val (.int r), .val (.double bb), .second] [(.int (2 : Int32))])) _
    refine XS.iload X64.here hx rfl (hb hby at_147) rfl ?_
    show Steps p.tables e below (T64.setTop (mkF m 149 #[.val (.int p1), .val (.int p2), .val (.int p3), .val (.int p4), .val (.int p5), .val (.int ln), .val (.double u0), .second, .val (.double u1), .second, .val (.double u2), .second, .val (.double u3), .second, .val (.ref b1), .val (.int r), .val (.double bb), .second] [(.int ln), (.int (2 : Int32))])) _
    refine XS.iload X64.here hx rfl (hb hby at_149) rfl ?_
    show Steps p.tables e below (T64.setTop (mkF m 151 #[.val (.int p1), .val (.int p2), .val (.int p3), .val (.int p4), .val (.int p5), .val (.int ln), .val (.double u0), .second, .val (.double u1), .second, .val (.double u2), .second, .val (.double u3), .second, .val (.ref b1), .val (.int r), .val (.double bb), .second] [(.int r), (.int ln), (.int (2 : Int32))])) _
    refine XS.dload X64.here hx rfl (hb hby at_151) rfl ?_
    show Steps p.tables e below (T64.setTop (mkF m 153 #[.val (.int p1), .val (.int p2), .val (.int p3), .val (.int p4), .val (.int p5), .val (.int ln), .val (.double u0), .second, .val (.double u1), .second, .val (.double u2), .second, .val (.double u3), .second, .val (.ref b1), .val (.int r), .val (.double bb), .second] [(.double u2), (.int r), (.int ln), (.int (2 : Int32))])) _
    refine XS.dload X64.here hx rfl (hb hby at_153) rfl ?_
    exact Steps.refl _
  obtain ⟨_, _, ⟨T67, L67, k67, n67⟩, -, X67, ⟨Lc67, hQ67, l67, y67, z67⟩, st67⟩ := Jvm.LawKit.callS X64 hx (y := (⟨"com/example/orrery/orrery/learning/ModelPredictedClassPinLaw", "fits", "(IIIDD)Z"⟩ : MethodName)) hown (mvT hZ (hw _ (List.mem_of_getElem? (i := 5) rfl))) (mvT hZ (hw _ (List.mem_of_getElem? (i := 6) rfl))) (mvT hZ (hw _ (List.mem_of_getElem? (i := 7) rfl))) (mvT hZ (hw _ (List.mem_of_getElem? (i := 8) rfl))) (by decide) (backOf (W := 0) (rm2 l Z a0 hw [] (2 : Int32) ln r u2 bb ((own_g p2 p3 p4 p5) 2) ((own_g p2 p3 p4 p5) r.toNatClampNeg) hM n0 ZM y2 yb ff2) hZ (hw _ (List.mem_of_getElem? (i := 8) rfl)) (hw _ (List.mem_of_getElem? (i := 7) rfl)) (by decide) (by decide)) (g := (mkF m 155 #[.val (.int p1), .val (.int p2), .val (.int p3), .val (.int p4), .val (.int p5), .val (.int ln), .val (.double u0), .second, .val (.double u1), .second, .val (.double u2), .second, .val (.double u3), .second, .val (.ref b1), .val (.int r), .val (.double bb), .second] [(.double bb), (.double u2), (.int r), (.int ln), (.int (2 : Int32))])) rfl (by rw [hml]; rfl) (argsL := [(.int (2 : Int32)), (.int ln), (.int r), (.double u2), (.double bb)]) (rest := []) (lenOf pd_1 rfl) rfl (by show 2 * 0 + _ ≤ _; exact Nat.le_of_eq rfl) (hb hby at_155) (fun _ _ => ⟨rfl, e64, (by decide : ((((0 + 1) + 0) + 0) + 0) + 0 ≤ _), (by decide : ((((0 + 4) + 0) + 0) + 0) + 0 ≤ _)⟩)
  dsimp only [Pt.U, Pt.locs, Pt.cells, Pt.slots] at X67 l67 y67 z67 st67 hQ67
  subst l67 y67 z67
  obtain ⟨rfl, Nq67, e67⟩ := hQ67
  have N67 := Fr.app N64 Nq67
  have r68 : Steps p.tables e below S0 (T67.setTop (mkF m 158 #[.val (.int p1), .val (.int p2), .val (.int p3), .val (.int p4), .val (.int p5), .val (.int ln), .val (.double u0), .second, .val (.double u1), .second, .val (.double u2), .second, .val (.double u3), .second, .val (.ref b1), .val (.int r), .val (.double bb), .second] [(.int (1 : Int32))])) := r66.trans (st67 _ (Steps.refl _))
  have y3 : Dy ((own_g p2 p3 p4 p5) 3) 0 u3 := by rw [hu3]; exact Dy.i2d _
  have ff3 : (3 : Int32) < ln → (own_g p2 p3 p4 p5) 3 ≤ (own_g p2 p3 p4 p5) r.toNatClampNeg ∧ ((3 : Int32) < r → (own_g p2 p3 p4 p5) 3 ≠ (own_g p2 p3 p4 p5) r.toNatClampNeg) := fun q => ⟨j3 3 (by have := Int32.lt_iff_toInt_lt.mp q; rw [show (3 : Int32).toInt = 3 by decide] at this; omega), fun q2 => Int.ne_of_lt (j4 3 (by have := Int32.lt_iff_toInt_lt.mp q2; rw [show (3 : Int32).toInt = 3 by decide] at this; omega))⟩
  have r69 : Steps p.tables e below S0 (T67.setTop (mkF m 170 #[.val (.int p1), .val (.int p2), .val (.int p3), .val (.int p4), .val (.int p5), .val (.int ln), .val (.double u0), .second, .val (.double u1), .second, .val (.double u2), .second, .val (.double u3), .second, .val (.ref b1), .val (.int r), .val (.double bb), .second] [(.double bb), (.double u3), (.int r), (.int ln), (.int (3 : Int32))])) := by
    refine r68.trans ?_
    show Steps p.tables e below (T67.setTop (mkF m 158 #[.val (.int p1), .val (.int p2), .val (.int p3), .val (.int p4), .val (.int p5), .val (.int ln), .val (.double u0), .second, .val (.double u1), .second, .val (.double u2), .second, .val (.double u3), .second, .val (.ref b1), .val (.int r), .val (.double bb), .second] [(.int (1 : Int32))])) _
    refine XS.ifNo X67.here hx rfl (hb hby at_158) rfl ((if0 _ _).trans (feq (by decide)).1) ?_
    show Steps p.tables e below (T67.setTop (mkF m 161 #[.val (.int p1), .val (.int p2), .val (.int p3), .val (.int p4), .val (.int p5), .val (.int ln), .val (.double u0), .second, .val (.double u1), .second, .val (.double u2), .second, .val (.double u3), .second, .val (.ref b1), .val (.int r), .val (.double bb), .second] [])) _
    refine XS.iconst X67.here hx rfl (hb hby at_161) ?_
    show Steps p.tables e below (T67.setTop (mkF m 162 #[.val (.int p1), .val (.int p2), .val (.int p3), .val (.int p4), .val (.int p5), .val (.int ln), .val (.double u0), .second, .val (.double u1), .second, .val (.double u2), .second, .val (.double u3), .second, .val (.ref b1), .val (.int r), .val (.double bb), .second] [(.int (3 : Int32))])) _
    refine XS.iload X67.here hx rfl (hb hby at_162) rfl ?_
    show Steps p.tables e below (T67.setTop (mkF m 164 #[.val (.int p1), .val (.int p2), .val (.int p3), .val (.int p4), .val (.int p5), .val (.int ln), .val (.double u0), .second, .val (.double u1), .second, .val (.double u2), .second, .val (.double u3), .second, .val (.ref b1), .val (.int r), .val (.double bb), .second] [(.int ln), (.int (3 : Int32))])) _
    refine XS.iload X67.here hx rfl (hb hby at_164) rfl ?_
    show Steps p.tables e below (T67.setTop (mkF m 166 #[.val (.int p1), .val (.int p2), .val (.int p3), .val (.int p4), .val (.int p5), .val (.int ln), .val (.double u0), .second, .val (.double u1), .second, .val (.double u2), .second, .val (.double u3), .second, .val (.ref b1), .val (.int r), .val (.double bb), .second] [(.int r), (.int ln), (.int (3 : Int32))])) _
    refine XS.dload X67.here hx rfl (hb hby at_166) rfl ?_
    show Steps p.tables e below (T67.setTop (mkF m 168 #[.val (.int p1), .val (.int p2), .val (.int p3), .val (.int p4), .val (.int p5), .val (.int ln), .val (.double u0), .second, .val (.double u1), .second, .val (.double u2), .second, .val (.double u3), .second, .val (.ref b1), .val (.int r), .val (.double bb), .second] [(.double u3), (.int r), (.int ln), (.int (3 : Int32))])) _
    refine XS.dload X67.here hx rfl (hb hby at_168) rfl ?_
    exact Steps.refl _
  obtain ⟨_, _, ⟨T70, L70, k70, n70⟩, -, X70, ⟨Lc70, hQ70, l70, y70, z70⟩, st70⟩ := Jvm.LawKit.callS X67 hx (y := (⟨"com/example/orrery/orrery/learning/ModelPredictedClassPinLaw", "fits", "(IIIDD)Z"⟩ : MethodName)) hown (mvT hZ (hw _ (List.mem_of_getElem? (i := 5) rfl))) (mvT hZ (hw _ (List.mem_of_getElem? (i := 6) rfl))) (mvT hZ (hw _ (List.mem_of_getElem? (i := 7) rfl))) (mvT hZ (hw _ (List.mem_of_getElem? (i := 8) rfl))) (by decide) (backOf (W := 0) (rm2 l Z a0 hw [] (3 : Int32) ln r u3 bb ((own_g p2 p3 p4 p5) 3) ((own_g p2 p3 p4 p5) r.toNatClampNeg) hM n0 ZM y3 yb ff3) hZ (hw _ (List.mem_of_getElem? (i := 8) rfl)) (hw _ (List.mem_of_getElem? (i := 7) rfl)) (by decide) (by decide)) (g := (mkF m 170 #[.val (.int p1), .val (.int p2), .val (.int p3), .val (.int p4), .val (.int p5), .val (.int ln), .val (.double u0), .second, .val (.double u1), .second, .val (.double u2), .second, .val (.double u3), .second, .val (.ref b1), .val (.int r), .val (.double bb), .second] [(.double bb), (.double u3), (.int r), (.int ln), (.int (3 : Int32))])) rfl (by rw [hml]; rfl) (argsL := [(.int (3 : Int32)), (.int ln), (.int r), (.double u3), (.double bb)]) (rest := []) (lenOf pd_1 rfl) rfl (by show 2 * 0 + _ ≤ _; exact Nat.le_of_eq rfl) (hb hby at_170) (fun _ _ => ⟨rfl, e67, (by decide : (((((0 + 1) + 0) + 0) + 0) + 0) + 0 ≤ _), (by decide : (((((0 + 4) + 0) + 0) + 0) + 0) + 0 ≤ _)⟩)
  dsimp only [Pt.U, Pt.locs, Pt.cells, Pt.slots] at X70 l70 y70 z70 st70 hQ70
  subst l70 y70 z70
  obtain ⟨rfl, Nq70, e70⟩ := hQ70
  have N70 := Fr.app N67 Nq70
  have r71 : Steps p.tables e below S0 (T70.setTop (mkF m 173 #[.val (.int p1), .val (.int p2), .val (.int p3), .val (.int p4), .val (.int p5), .val (.int ln), .val (.double u0), .second, .val (.double u1), .second, .val (.double u2), .second, .val (.double u3), .second, .val (.ref b1), .val (.int r), .val (.double bb), .second] [(.int (1 : Int32))])) := r69.trans (st70 _ (Steps.refl _))
  have r72 : Steps p.tables e below S0 (T70.setTop (mkF m 181 #[.val (.int p1), .val (.int p2), .val (.int p3), .val (.int p4), .val (.int p5), .val (.int ln), .val (.double u0), .second, .val (.double u1), .second, .val (.double u2), .second, .val (.double u3), .second, .val (.ref b1), .val (.int r), .val (.double bb), .second] [(.int (1 : Int32))])) := by
    refine r71.trans ?_
    show Steps p.tables e below (T70.setTop (mkF m 173 #[.val (.int p1), .val (.int p2), .val (.int p3), .val (.int p4), .val (.int p5), .val (.int ln), .val (.double u0), .second, .val (.double u1), .second, .val (.double u2), .second, .val (.double u3), .second, .val (.ref b1), .val (.int r), .val (.double bb), .second] [(.int (1 : Int32))])) _
    refine XS.ifNo X70.here hx rfl (hb hby at_173) rfl ((if0 _ _).trans (feq (by decide)).1) ?_
    show Steps p.tables e below (T70.setTop (mkF m 176 #[.val (.int p1), .val (.int p2), .val (.int p3), .val (.int p4), .val (.int p5), .val (.int ln), .val (.double u0), .second, .val (.double u1), .second, .val (.double u2), .second, .val (.double u3), .second, .val (.ref b1), .val (.int r), .val (.double bb), .second] [])) _
    refine XS.iconst X70.here hx rfl (hb hby at_176) ?_
    show Steps p.tables e below (T70.setTop (mkF m 177 #[.val (.int p1), .val (.int p2), .val (.int p3), .val (.int p4), .val (.int p5), .val (.int ln), .val (.double u0), .second, .val (.double u1), .second, .val (.double u2), .second, .val (.double u3), .second, .val (.ref b1), .val (.int r), .val (.double bb), .second] [(.int (1 : Int32))])) _
    refine XS.goto X70.here hx rfl (pc0 := 177) (pc' := 181) rfl (hb hby at_177) (by decide) (by decide) ?_
    exact Steps.refl _
  obtain ⟨fs, hr, hrun, hended, hW, hsame⟩ := X70.leave (v := some (.int (1 : Int32))) (fun h => by rw [Bd.returns] at h; cases h)
  refine ⟨_, _, pre0 _ ?_, hrun, hended, _, _, rfl, ?_, ⟨_, rfl⟩, hW, hsame.mono (by decide) (by decide)⟩
  · rw [← hS0]
    refine r72.trans ?_
    show Steps p.tables e below (T70.setTop (mkF m 181 #[.val (.int p1), .val (.int p2), .val (.int p3), .val (.int p4), .val (.int p5), .val (.int ln), .val (.double u0), .second, .val (.double u1), .second, .val (.double u2), .second, .val (.double u3), .second, .val (.ref b1), .val (.int r), .val (.double bb), .second] [(.int (1 : Int32))])) _
    exact retB X70 hx Bd.returns (by first | exact Or.inr rfl | exact Or.inl rfl | (split <;> simp)) (hb hby at_181) hr
  · exact ⟨rfl, N70⟩
set_option maxRecDepth 65536 in
set_option maxHeartbeats 40000000 in
theorem comes_1 {Post : Tables → Env → Array Value → State → Outcome → State → Prop} (hpost : ∀ tb e args s v u, (limb_1_1.after args s (.returned v) u = true ∧ limb_1_2.after args s (.returned v) u = true ∧ True) → FrameEnd s (.returned v) u (Jvm.fieldLocs frame_1_writes args s ++ Jvm.arrayLocs frame_1_arrays args s ++ Jvm.staticLocs frame_1_statics s) 16 128 → Post tb e args s (.returned v) u) :
    ArmFor flags0 classFile x code maxLocals ret World_1 tables_1 room_1 Calls_1 rest_1 Pre_1 Post := by
  intro l hfl _ _ p e ha hc hk s m args below hf hA hF happ hP
  obtain ⟨hcalls, hrest, hpre⟩ := hP
  obtain ⟨-, -, -, hnamed, -, -, -, hat⟩ := (Spec.applies_iff hf).mp happ
  obtain ⟨hg, hn⟩ := and_e (Cond.before_iff.mp (show (Jvm.Cond.and given_1 narrow_1).before args s = true from hpre))
  obtain ⟨g0, hg⟩ := and_e hg
  obtain ⟨ga0, hg⟩ := and_e hg
  obtain ⟨ga1, hg⟩ := and_e hg
  obtain ⟨ga2, hg⟩ := and_e hg
  obtain ⟨ga3, hg⟩ := and_e hg
  have ga4 := hg
  obtain ⟨w0, w1, w2, w3, w4, rfl⟩ : ∃ w0 w1 w2 w3 w4 : Value, args = #[w0, w1, w2, w3, w4] := by
    have hs : args.size = 5 := by simpa [Cond.value, given_1] using g0
    obtain ⟨L⟩ := args
    match L, hs with
    | [w0, w1, w2, w3, w4], _ => exact ⟨w0, w1, w2, w3, w4, rfl⟩
  have hw := fun d (hd : d ∈ tables_1) => atoms_spec (ws := Jvm.Cond.code x code maxLocals ret :: tables_1) hat d (List.mem_cons_of_mem _ hd)
  have hfit : Fit s := fun {y c} hc i hi => by
    obtain ⟨ha, rfl⟩ := Array.getElem?_eq_some_iff.mp hc
    have q := List.all_eq_true.mp ((Array.all_eq_true_iff_forall_mem.mp hF) _ (Array.getElem_mem ha)) i (List.mem_range.mpr hi)
    simpa [Array.getElem?_eq_getElem hi] using q
  obtain ⟨i0, ei0⟩ := is_v ga0
  obtain rfl : w0 = (.int i0) := Option.some.inj ei0
  obtain ⟨i1, ei1⟩ := is_v ga1
  obtain rfl : w1 = (.int i1) := Option.some.inj ei1
  obtain ⟨i2, ei2⟩ := is_v ga2
  obtain rfl : w2 = (.int i2) := Option.some.inj ei2
  obtain ⟨i3, ei3⟩ := is_v ga3
  obtain rfl : w3 = (.int i3) := Option.some.inj ei3
  obtain ⟨i4, ei4⟩ := is_v ga4
  obtain rfl : w4 = (.int i4) := Option.some.inj ei4
  obtain ⟨n, o, h1, h2, h3, _, L, rfl, ⟨rfl, N⟩, hq⟩ := rm0 l s _ hw tables_1 i0 i1 i2 i3 i4 s.heap s.heap.size (Nat.le_refl _)  p e ha hc hk s m _ below hf ((Spec.applies_iff_loose hf).mp happ).1 ⟨rfl, State.Warmed39.refl s, rfl⟩ trivial
  refine ⟨n, _, h1, h2, h3, hpost _ _ _ _ _ _ ⟨Cond.after_iff.mpr rfl, Cond.after_iff.mpr (eq_i res_at (Term.int_eval (1)) rfl), trivial⟩ ⟨hq.1, hq.2.1, (hq.2.2.sift fun y hy => Or.inr (N y hy)).mono (by decide) (by decide)⟩⟩
theorem main_1_1 : Claimed_1_1 := comes_1 fun _ _ _ _ _ _ h hF => ⟨h.1, hF⟩
theorem main_1_2 : Claimed_1_2 := comes_1 fun _ _ _ _ _ _ h hF => ⟨h.2.1, hF⟩
end Jvm.Pilot.@@N@@
namespace Jvm.Pilot.@@N@@
open Jvm Jvm.ClassFile Sem Op Lib Jvm.Free Jvm.Stand Jvm.Pilot.@@N@@.Jvm.D
/-! MADE BY PROGRAM (witnessworld.py) out of the Statement's table words and the real class files: 11 classes; the members and pool entries that the words name. The judged class is class 1, her method 2. -/
namespace start1
open Jvm.ClassFile
def u (s : String) : CpInfo := .utf8 (stringToUtf16 s)
/-- a pool by its gaps: so many unusable entries, then the entry; so many at the end -/
def gap : Nat → List CpInfo → List CpInfo
  | 0, r => r
  | n + 1, r => .unusable :: gap n r
def poolList (es : List (Nat × CpInfo)) (last : Nat) : List CpInfo := es.foldr (fun e r => gap e.1 (e.2 :: r)) (gap last [])
def pool (es : List (Nat × CpInfo)) (last : Nat) : Array CpInfo := ⟨poolList es last⟩
def fileOf (pool : Array CpInfo) (this : Nat) (attrs : Array Attribute := #[]) (ms : Array MethodInfo := #[]) (fl : Nat := 33) (sup : Nat := 0) (ifs : Array Nat := #[]) (fds : Array FieldInfo := #[]) : ClassFile where
  minorVersion := 0
  majorVersion := 65
  constantPool := pool
  accessFlags := fl
  thisClass := this
  superClass := sup
  interfaces := ifs
  fields := fds
  methods := ms
  attributes := attrs
def plain (name : String) (sup : Option ClassId) : Class where
  name := name
  kind := .ordinary
  loader := none
  accessFlags := 33
  super := sup
  interfaces := #[]
  cf := none
  fields := #[]
  methods := #[]
  instanceTypes := #[]
  staticTypes := #[]
  resolved := #[]
  callSites := []
  init := .initialized
  statics := none
  mirror := none

def pool0 : Array CpInfo := pool [(5, u "<init>"), (0, u "()V"), (1, .class_ 10), (1, u "java/lang/Object")] 113

def k0m0 : Method := { name := "<init>", desc := "()V", sig := { parameters := [], returnType := none }, accessFlags := 1, code := none }
/-- java/lang/Object -/
def k0 : Class := { plain "java/lang/Object" none with
  accessFlags := 33
  interfaces := #[]
  cf := some (fileOf pool0 8 #[] #[{ accessFlags := 1, nameIndex := 5, descriptorIndex := 6, attributes := #[] }] 33 0 #[] #[])
  fields := #[]
  methods := #[k0m0]
  instanceTypes := #[]
  staticTypes := #[]
  resolved := Array.replicate 124 none
  statics := none }

def pool1 : Array CpInfo := pool [(2, .class_ 4), (1, u "java/lang/Object"), (0, u "<init>"), (0, u "()V"), (0, .interfaceMethodref 8 9), (0, .class_ 10), (0, .nameAndType 11 12), (0, u "com/example/orrery/orrery/learning/Model"), (0, u "predictedClass"), (0, u "([D)I"), (0, .methodref 14 15), (0, .class_ 16), (0, .nameAndType 17 18), (0, u "com/example/orrery/orrery/learning/ModelPredictedClassPinLaw"), (0, u "fits"), (0, u "(IIIDD)Z"), (3, u "law"), (0, u "(IIIII)Z")] 4

def k1m0 : Method := { name := "<init>", desc := "()V", sig := { parameters := [], returnType := none }, accessFlags := 2, code := none }
def k1c1 : Code := { maxStack := 4, maxLocals := 7, code := method_2_code, exceptionTable := #[], attributes := #[] }
def k1m1 : Method := { name := "fits", desc := "(IIIDD)Z", sig := { parameters := [.int, .int, .int, .double, .double], returnType := some .boolean }, accessFlags := 10, code := some k1c1 }
def k1c2 : Code := { maxStack := 7, maxLocals := 18, code := code, exceptionTable := #[], attributes := #[] }
def k1m2 : Method := { name := "law", desc := "(IIIII)Z", sig := { parameters := [.int, .int, .int, .int, .int], returnType := some .boolean }, accessFlags := 9, code := some k1c2 }
/-- com/example/orrery/orrery/learning/ModelPredictedClassPinLaw -/
def k1 : Class := { plain "com/example/orrery/orrery/learning/ModelPredictedClassPinLaw" (some 0) with
  accessFlags := 49
  interfaces := #[]
  cf := some (fileOf pool1 14 #[] #[{ accessFlags := 2, nameIndex := 5, descriptorIndex := 6, attributes := #[] }, { accessFlags := 10, nameIndex := 17, descriptorIndex := 18, attributes := #[] }, { accessFlags := 9, nameIndex := 22, descriptorIndex := 23, attributes := #[] }] 49 2 #[] #[])
  fields := #[]
  methods := #[k1m0, k1m1, k1m2]
  instanceTypes := #[]
  staticTypes := #[]
  resolved := Array.replicate 28 none
  statics := none }

def pool2 : Array CpInfo := pool [(7, .class_ 8), (0, u "com/example/orrery/orrery/learning/Model"), (0, .class_ 10), (0, u "java/lang/Object"), (9, u "predictedClass"), (0, u "([D)I")] 3

def k2c0 : Code := { maxStack := 4, maxLocals := 3, code := prog_60_method_4_code, exceptionTable := #[], attributes := #[] }
def k2m0 : Method := { name := "predictedClass", desc := "([D)I", sig := { parameters := [(.array .double)], returnType := some .int }, accessFlags := 9, code := some k2c0 }
/-- com/example/orrery/orrery/learning/Model -/
def k2 : Class := { plain "com/example/orrery/orrery/learning/Model" (some 0) with
  accessFlags := 1537
  interfaces := #[]
  cf := some (fileOf pool2 7 #[] #[{ accessFlags := 9, nameIndex := 20, descriptorIndex := 21, attributes := #[] }] 1537 9 #[] #[])
  fields := #[]
  methods := #[k2m0]
  instanceTypes := #[]
  staticTypes := #[]
  resolved := Array.replicate 25 none
  statics := none }

def pool3 : Array CpInfo := pool [(1, u "java/lang/Cloneable"), (0, .class_ 1), (0, u "java/lang/Object"), (0, .class_ 3)] 3

/-- java/lang/Cloneable -/
def k3 : Class := { plain "java/lang/Cloneable" (some 0) with
  accessFlags := 1537
  interfaces := #[]
  cf := some (fileOf pool3 2 #[] #[] 1537 4 #[] #[])
  fields := #[]
  methods := #[]
  instanceTypes := #[]
  staticTypes := #[]
  resolved := Array.replicate 8 none
  statics := none }

def pool4 : Array CpInfo := pool [(1, u "java/io/Serializable"), (0, .class_ 1), (0, u "java/lang/Object"), (0, .class_ 3)] 3

/-- java/io/Serializable -/
def k4 : Class := { plain "java/io/Serializable" (some 0) with
  accessFlags := 1537
  interfaces := #[]
  cf := some (fileOf pool4 2 #[] #[] 1537 4 #[] #[])
  fields := #[]
  methods := #[]
  instanceTypes := #[]
  staticTypes := #[]
  resolved := Array.replicate 8 none
  statics := none }

/-- the primitive byte -/
def k5 : Class := { plain "byte" none with kind := .primitive 'B', accessFlags := 0x411 }
/-- [B -/
def k6 : Class := { plain "[B" (some 0) with kind := .array 5 .byte, interfaces := #[3, 4], accessFlags := 1041 }

/-- the primitive double -/
def k7 : Class := { plain "double" none with kind := .primitive 'D', accessFlags := 0x411 }
/-- [D -/
def k8 : Class := { plain "[D" (some 0) with kind := .array 7 .double, interfaces := #[3, 4], accessFlags := 1041 }

/-- the primitive int -/
def k9 : Class := { plain "int" none with kind := .primitive 'I', accessFlags := 0x411 }
/-- [I -/
def k10 : Class := { plain "[I" (some 0) with kind := .array 9 .int, interfaces := #[3, 4], accessFlags := 1041 }

def heap : Heap := #[]
def classes : Array Class := #[k0, k1, k2, k3, k4, k5, k6, k7, k8, k9, k10]
def interned : List (Array UInt16 × Addr) := []
def slotsUsed : Nat := 0
def theMethod : MethodId := ⟨1, 2⟩
def args0 : Array Value := #[.int 5, .int 5, .int 5, .int 5, .int 5]
def aboutOver (below : List Frame) : State where
  vm := { classes := classes, interned := interned.toArray }
  heap := heap
  slotsUsed := slotsUsed
  threads := #[{ frames := .invoking theMethod args0 :: below }]
def below0 : List Frame := [.native { method := ⟨0, 0⟩, args := #[] }]
def about1 : State := aboutOver below0
def p0 : Program := .bare "" "" ""
def e0 : Env := launch0.env 0 0 0
theorem w_frames : about1.frames = Frame.invoking theMethod args0 :: below0 := rfl
set_option maxRecDepth 65536 in
theorem w_args : argsFit about1.vm theMethod args0 = true := by decide +kernel
set_option maxRecDepth 65536 in
theorem w_heap : heapFits about1 = true := by decide +kernel
set_option maxRecDepth 65536 in
theorem w_runnable : about1.curStatus? = some .runnable := by decide +kernel
set_option maxRecDepth 65536 in
theorem w_alone : about1.alone = true := by decide +kernel
set_option maxRecDepth 65536 in
theorem w_named : about1.methodNamed? x = some theMethod := by decide +kernel
set_option maxRecDepth 65536 in
theorem w_hears : about1.hears theMethod below0 = true := by decide +kernel
set_option maxRecDepth 65536 in
theorem w_ripe : about1.ripe theMethod args0 below0 = true := by decide +kernel
theorem w_running : about1.status = .running := rfl
set_option maxRecDepth 65536 in
theorem w_room : about1.hasRoom e0.platform room_1 = true :=
  launch0.hasRoom_least _ room_1 (by decide +kernel) (by decide +kernel) (by decide +kernel) (by decide +kernel) (by decide +kernel) (by decide +kernel)
theorem allAtoms_all (ts : List Jvm.Cond) (a : Array Jvm.Value) (st : Jvm.State) : (allAtoms ts).before a st = ts.all (fun c => c.before a st) := by
  induction ts with
  | nil => rfl
  | cons c t ih =>
    show (Jvm.Cond.and c (allAtoms t)).before a st = _
    rw [Jvm.Cond.before_and, ih, List.all_cons]
def words1 : List Jvm.Cond := Jvm.Cond.code x code maxLocals ret :: tables_1
/-- a 'code' word, met by the world's own term for the bytes: nothing is compared byte by byte -/
theorem code_word {y : MethodName} {bytes : ByteArray} {mx : Nat} {rt : Option FieldType} {a : Array Value} {s : State} {m : MethodId} {meth : Method} {c : Code} (h1 : s.methodNamed? y = some m) (h2 : s.vm.method? m = some meth) (h3 : meth.code = some c) (h4 : c.code = bytes)
    (h5 : (c.maxLocals == mx && c.exceptionTable.isEmpty && decide (c.maxStack ≤ mostOperands) && decide (meth.sig.returnType = rt) && !meth.locks && decide (parseMethodDescriptor y.desc = some meth.sig)) = true) : (Jvm.Cond.code y bytes mx rt).before a s = true := by
  simp only [Bool.and_eq_true, beq_iff_eq, Bool.not_eq_true', decide_eq_true_eq] at h5
  obtain ⟨⟨⟨⟨⟨g1, g2⟩, g3⟩, g4⟩, g5⟩, g6⟩ := h5
  simp [Cond.before, Cond.holds, Cond.value, h1, h2, h3, h4, g1, g2, g3, g4, g5, g6]
def isCode : Jvm.Cond → Bool
  | .code _ _ _ _ => true
  | _ => false
theorem all_split {L : List Jvm.Cond} {P : Jvm.Cond → Bool} (h1 : L.all (fun c => isCode c || P c) = true) (h2 : ∀ c ∈ L.filter isCode, P c = true) : L.all P = true := by
  refine List.all_eq_true.mpr fun c hc => ?_
  have h := List.all_eq_true.mp h1 c hc
  rcases Bool.eq_false_or_eq_true (isCode c) with hi | hi
  · exact h2 c (List.mem_filter.mpr ⟨hc, hi⟩)
  · simpa [hi] using h
set_option maxRecDepth 65536 in
theorem w_c0 : (Jvm.Cond.code x code maxLocals ret).before args0 about1 = true := code_word (m := ⟨1, 2⟩) (meth := k1m2) (c := k1c2) (by decide +kernel) rfl rfl rfl (by decide +kernel)
set_option maxRecDepth 65536 in
theorem w_c1 : (Jvm.Cond.code ({ cls := "com/example/orrery/orrery/learning/Model", name := "predictedClass", desc := "([D)I" } : Jvm.MethodName) prog_60_method_4_code (3 : Nat) (Option.some Jvm.ClassFile.FieldType.int)).before args0 about1 = true := code_word (m := ⟨2, 0⟩) (meth := k2m0) (c := k2c0) (by decide +kernel) rfl rfl rfl (by decide +kernel)
set_option maxRecDepth 65536 in
theorem w_c2 : (Jvm.Cond.code ({ cls := "com/example/orrery/orrery/learning/ModelPredictedClassPinLaw", name := "fits", desc := "(IIIDD)Z" } : Jvm.MethodName) method_2_code (7 : Nat) (Option.some Jvm.ClassFile.FieldType.boolean)).before args0 about1 = true := code_word (m := ⟨1, 1⟩) (meth := k1m1) (c := k1c1) (by decide +kernel) rfl rfl rfl (by decide +kernel)
def codes1 : List Jvm.Cond := [Jvm.Cond.code x code maxLocals ret, Jvm.Cond.code ({ cls := "com/example/orrery/orrery/learning/Model", name := "predictedClass", desc := "([D)I" } : Jvm.MethodName) prog_60_method_4_code (3 : Nat) (Option.some Jvm.ClassFile.FieldType.int), Jvm.Cond.code ({ cls := "com/example/orrery/orrery/learning/ModelPredictedClassPinLaw", name := "fits", desc := "(IIIDD)Z" } : Jvm.MethodName) method_2_code (7 : Nat) (Option.some Jvm.ClassFile.FieldType.boolean)]
set_option maxRecDepth 65536 in
theorem codes_eq : words1.filter isCode = codes1 := rfl
theorem w_codes : ∀ c ∈ words1.filter isCode, c.before args0 about1 = true := by
  rw [codes_eq]
  intro c hc
  simp only [codes1, List.mem_cons, List.not_mem_nil, or_false] at hc
  rcases hc with rfl | rfl | rfl
  · exact w_c0
  · exact w_c1
  · exact w_c2
set_option maxRecDepth 65536 in
theorem w_t1 : words1.all (fun c => isCode c || c.before args0 about1) = true := by decide +kernel
theorem w_tables : (allAtoms (Jvm.Cond.code x code maxLocals ret :: tables_1)).before args0 about1 = true := by
  rw [allAtoms_all]
  show words1.all (fun c => c.before args0 about1) = true
  refine all_split ?_ w_codes
  rw [w_t1]
set_option maxRecDepth 65536 in
theorem w_case : (Jvm.Cond.and given_1 narrow_1).before args0 about1 = true := by decide +kernel
theorem w_applies : (headSpec (Jvm.Cond.code x code maxLocals ret :: tables_1) room_1).applies x e0.platform about1 = true :=
  (Spec.applies_iff w_frames).mpr ⟨w_running, w_runnable, w_alone, w_named, w_hears, w_ripe, w_room, w_tables⟩
theorem atStart : AtStart classFile x code maxLocals ret World_1 tables_1 room_1 Calls_1 rest_1 Pre_1 launch0 p0 e0 about1 theMethod args0 below0 :=
  ⟨lists_1, trivial, launch0.admits_env _ _ _, launch0.least_env, fairChoices_fair.cas, fairChoices_fair.clock, w_frames, w_args, w_heap, w_applies, trivial, trivial, w_case⟩
end start1
theorem witness_1 : WitnessClaimed_1 := ⟨start1.p0, start1.e0, start1.about1, start1.theMethod, start1.args0, start1.below0, start1.atStart⟩
end Jvm.Pilot.@@N@@
