import JvmDerived
import JvmDerived.Pilot.@@N@@Statement
import JvmDerived.Pilot.@@N@@Code
set_option linter.unusedVariables false
set_option linter.unusedSimpArgs false
namespace Jvm.OwnF
open Jvm.FP Jvm.Free.Fl
/-! Exact dyadic arithmetic on doubles: Dy i k u says that the double u is the number i / 2^k. -/
/-- the datum times 2^k -/
def sh (k : Int) : Core.Datum → Core.Datum
  | .nan => .nan
  | .inf s => .inf s
  | .fin s c q => .fin s c (q + k)
def Dy (i : Int) (k : Nat) (u : UInt64) : Prop := Core.Whole i (sh k (Core.val64 u))
theorem ifc3 {α : Type} {p q : Prop} [Decidable p] [Decidable q] {a b c d : α} (h : p ↔ q) (h1 : a = c) (h2 : b = d) : (if p then a else b) = (if q then c else d) := by
  subst h1 h2
  by_cases hp : p
  · rw [if_pos hp, if_pos (h.mp hp)]
  · rw [if_neg hp, if_neg (fun z => hp (h.mpr z))]
theorem mpos {a b : Int} (hb : 0 < b) : 0 < a * b ↔ 0 < a := by
  constructor
  · intro h
    refine Int.lt_of_not_ge fun hle => ?_
    have q := Int.mul_le_mul_of_nonneg_right hle (Int.le_of_lt hb)
    rw [Int.zero_mul] at q
    omega
  · intro h
    exact Int.mul_pos h hb
theorem sh_zero (d : Core.Datum) : sh ((0 : Nat) : Int) d = d := by
  cases d with
  | nan => rfl
  | inf s => rfl
  | fin s c q => show Core.Datum.fin s c (q + ((0 : Nat) : Int)) = _; rw [show q + ((0 : Nat) : Int) = q by omega]
theorem sh_neg (k : Int) (d : Core.Datum) : Core.negate (sh k d) = sh k (Core.negate d) := by cases d <;> rfl
theorem sh_sum (k : Int) (x y : Core.Datum) : Core.exactSum (sh k x) (sh k y) = sh k (Core.exactSum x y) := by
  cases x with
  | nan => cases y <;> rfl
  | inf s =>
    cases y with
    | nan => rfl
    | inf t => show (if s = t then Core.Datum.inf s else .nan) = sh k (if s = t then Core.Datum.inf s else .nan); split <;> rfl
    | fin t d r => rfl
  | fin s c q =>
    cases y with
    | nan => rfl
    | inf t => rfl
    | fin t d r =>
      have hm : min (q + k) (r + k) = min q r + k := by omega
      have hu : Core.sumUnits s c (q + k) t d (r + k) (min (q + k) (r + k)) = Core.sumUnits s c q t d r (min q r) := by
        rw [hm]
        unfold Core.sumUnits Core.inUnits
        rw [show q + k - (min q r + k) = q - min q r by omega, show r + k - (min q r + k) = r - min q r by omega]
      show Core.Datum.fin (Core.sumSign s t (Core.sumUnits s c (q + k) t d (r + k) (min (q + k) (r + k)))) (Core.sumUnits s c (q + k) t d (r + k) (min (q + k) (r + k))).natAbs (min (q + k) (r + k)) = Core.Datum.fin (Core.sumSign s t (Core.sumUnits s c q t d r (min q r))) (Core.sumUnits s c q t d r (min q r)).natAbs (min q r + k)
      rw [hu, hm]
theorem sh_prod (j k : Int) (x y : Core.Datum) : Core.exactProduct (sh j x) (sh k y) = sh (j + k) (Core.exactProduct x y) := by
  cases x with
  | nan => cases y <;> rfl
  | inf s =>
    cases y with
    | nan => rfl
    | inf t => rfl
    | fin t d r => show (if d = 0 then Core.Datum.nan else .inf (s != t)) = sh (j + k) (if d = 0 then Core.Datum.nan else .inf (s != t)); split <;> rfl
  | fin s c q =>
    cases y with
    | nan => rfl
    | inf t => show (if c = 0 then Core.Datum.nan else .inf (s != t)) = sh (j + k) (if c = 0 then Core.Datum.nan else .inf (s != t)); split <;> rfl
    | fin t d r => show Core.Datum.fin (s != t) (c * d) (q + j + (r + k)) = Core.Datum.fin (s != t) (c * d) (q + r + (j + k)); rw [show q + j + (r + k) = q + r + (j + k) by omega]
theorem sh_order (k : Int) (x y : Core.Datum) : Core.order (sh k x) (sh k y) = Core.order x y := by
  cases x with
  | nan => cases y <;> rfl
  | inf s => cases y <;> rfl
  | fin s c q =>
    cases y with
    | nan => rfl
    | inf t => rfl
    | fin t d r =>
      have hm : min (q + k) (r + k) = min q r + k := by omega
      show some (compare (Core.signed s (Core.inUnits c (q + k) (min (q + k) (r + k)))) (Core.signed t (Core.inUnits d (r + k) (min (q + k) (r + k))))) = some (compare (Core.signed s (Core.inUnits c q (min q r))) (Core.signed t (Core.inUnits d r (min q r))))
      unfold Core.inUnits
      rw [hm, show q + k - (min q r + k) = q - min q r by omega, show r + k - (min q r + k) = r - min q r by omega]
theorem sgn_whole {i : Int} {s : Bool} {c : Nat} {q : Int} (h : Core.Whole i (.fin s c q)) : Core.signed s i.natAbs = i := by
  by_cases hi0 : i = 0
  · rw [hi0]; exact Core.signed_zero s
  · rw [Core.whole_sign h hi0]
    unfold Core.signed
    by_cases h : i < 0 <;> simp [h] <;> omega
/-- n / 2^k, rounded, is exact -/
theorem ratio_exact (s : Bool) {n k : Nat} (hn : n ≤ 2 ^ 53) (hk : k ≤ 1000) : ∃ c q, Core.roundRatio Core.b64 s n 1 (-(k : Int)) = .fin s c q ∧ n * 2 ^ (-(q + k)).toNat = c * 2 ^ (q + k).toNat := by
  by_cases h0 : n = 0
  · subst h0
    exact ⟨0, Core.b64.qmin, rfl, by simp⟩
  · obtain ⟨c', q', hfit, hv⟩ := Core.natFit Core.good_b64 Core.wide_b64 s (n := n) hn
    obtain ⟨f1, f2, f3, f4⟩ := hfit
    have e53 : 2 ^ Core.b64.p = 9007199254740992 := by decide
    have hmin : Core.b64.qmin = -1074 := by decide
    rw [e53] at f1
    rw [Nat.mul_one] at hv
    have hq : -53 < q' := by
      refine Int.lt_of_not_ge fun hle => ?_
      rw [show (q' - 0).toNat = 0 by omega, Nat.pow_zero, Nat.mul_one] at hv
      have h1 : 2 ^ 53 ≤ 2 ^ (0 - q').toNat := Nat.pow_le_pow_right (by decide) (by omega)
      have h2 : 1 * 2 ^ (0 - q').toNat ≤ n * 2 ^ (0 - q').toNat := Nat.mul_le_mul_right _ (by omega)
      have h3 : (2 : Nat) ^ 53 = 9007199254740992 := by decide
      omega
    have ht : Core.b64.tails ≤ c' := f4.resolve_left (by omega)
    have hfit' : Core.fits Core.b64 (.fin s c' (q' - k)) := ⟨by rw [e53]; exact f1, by omega, by omega, Or.inr ht⟩
    refine ⟨c', q' - k, Core.roundRatio_exact Core.good_b64 (by decide) hfit' ?_, ?_⟩
    · rw [Nat.mul_one, show (-(k : Int) - (q' - k)).toNat = (0 - q').toNat by omega, show (q' - k - -(k : Int)).toNat = (q' - 0).toNat by omega]
      exact hv
    · rw [show (-(q' - (k : Int) + k)).toNat = (0 - q').toNat by omega, show (q' - (k : Int) + k).toNat = (q' - 0).toNat by omega]
      exact hv
theorem whole_ratio (s : Bool) {i : Int} {k : Nat} (hs : Core.signed s i.natAbs = i) (hi : i.natAbs ≤ 2 ^ 53) (hk : k ≤ 1000) : Core.Whole i (sh k (Core.roundRatio Core.b64 s i.natAbs 1 (-(k : Int)))) := by
  obtain ⟨c, q, e, hv⟩ := ratio_exact s hi hk
  rw [e]
  show Core.signed s (c * 2 ^ (q + (k : Int)).toNat) = i * ((2 ^ (-(q + (k : Int))).toNat : Nat) : Int)
  rw [← hv, Core.signed_mul, hs]
/-- what i / 2^k rounds to -/
theorem round_eq {i : Int} {k : Nat} {s : Bool} {c : Nat} {q : Int} (h : Core.Whole i (sh k (.fin s c q))) : Core.round Core.b64 (.fin s c q) = Core.roundRatio Core.b64 s i.natAbs 1 (-(k : Int)) := by
  refine Core.roundRatio_congr (by decide) (by decide) ?_
  have h1 := Core.whole_natAbs (show Core.Whole i (.fin s c (q + (k : Int))) from h)
  rw [show (q - -(k : Int)).toNat = (q + (k : Int)).toNat by omega, show (-(k : Int) - q).toNat = (-(q + (k : Int))).toNat by omega, Nat.mul_one, Nat.mul_one]
  exact h1
theorem round_dy {i : Int} {k : Nat} {d : Core.Datum} (h : Core.Whole i (sh k d)) (hi : i.natAbs ≤ 2 ^ 53) (hk : k ≤ 1000) : Core.Whole i (sh k (Core.round Core.b64 d)) := by
  cases d with
  | nan => exact h.elim
  | inf => exact h.elim
  | fin s c q =>
    rw [round_eq h]
    exact whole_ratio s (sgn_whole (show Core.Whole i (.fin s c (q + (k : Int))) from h)) hi hk
theorem Dy.shape {i : Int} {k : Nat} {u : UInt64} (h : Dy i k u) : ∃ s c q, Core.val64 u = .fin s c q := by
  unfold Dy at h
  cases e : Core.val64 u with
  | nan => rw [e] at h; exact h.elim
  | inf s => rw [e] at h; exact h.elim
  | fin s c q => exact ⟨s, c, q, rfl⟩
theorem Dy.ne_nan {i : Int} {k : Nat} {u : UInt64} (h : Dy i k u) : Core.val64 u ≠ .nan := by
  obtain ⟨s, c, q, e⟩ := h.shape
  rw [e]; exact nofun
theorem Dy.noNaN {i : Int} {k : Nat} {u : UInt64} (h : Dy i k u) : NoNaN64 u := val64_no.mpr h.ne_nan
theorem Dy.of_int {i : Int} {u : UInt64} (h : Core.DInt i u) : Dy i 0 u := by
  unfold Dy; rw [sh_zero]; exact h
theorem Dy.add {i j : Int} {k : Nat} {a b : UInt64} (ha : Dy i k a) (hb : Dy j k b) (h : (i + j).natAbs ≤ 2 ^ 53) (hk : k ≤ 1000) : Dy (i + j) k (FP.dadd a b) := by
  unfold Dy
  rw [show Core.val64 (FP.dadd a b) = _ from Core.val64_dadd a b]
  exact round_dy (by rw [← sh_sum]; exact Core.whole_sum ha hb) h hk
theorem Dy.sub {i j : Int} {k : Nat} {a b : UInt64} (ha : Dy i k a) (hb : Dy j k b) (h : (i - j).natAbs ≤ 2 ^ 53) (hk : k ≤ 1000) : Dy (i - j) k (FP.dsub a b) := by
  unfold Dy
  rw [show Core.val64 (FP.dsub a b) = _ from Core.val64_dsub a b]
  exact round_dy (by rw [← sh_sum, ← sh_neg]; exact Core.whole_sum ha (Core.whole_negate hb)) h hk
theorem Dy.mul {i j : Int} {k l : Nat} {a b : UInt64} (ha : Dy i k a) (hb : Dy j l b) (h : (i * j).natAbs ≤ 2 ^ 53) (hk : k + l ≤ 1000) : Dy (i * j) (k + l) (FP.dmul a b) := by
  unfold Dy
  rw [show Core.val64 (FP.dmul a b) = _ from Core.val64_dmul a b]
  exact round_dy (by rw [Int.natCast_add, ← sh_prod]; exact Core.whole_product ha hb) h hk
theorem Dy.cmp {i j : Int} {k : Nat} {a b : UInt64} (ha : Dy i k a) (hb : Dy j k b) : FP.dcmp a b = some (compare i j) := by
  show Core.order (Core.val64 a) (Core.val64 b) = _
  rw [← sh_order k]
  exact Core.order_whole ha hb
theorem Dy.scale {i : Int} {k : Nat} {a : UInt64} (ha : Dy i k a) (j : Nat) : Dy (i * (2 ^ j : Nat)) (k + j) a := by
  obtain ⟨s, c, q, e⟩ := ha.shape
  unfold Dy at ha ⊢
  rw [e] at ha ⊢
  have h1 : Core.Whole ((2 ^ j : Nat) : Int) (.fin false 1 (j : Int)) := by
    show Core.signed false (1 * 2 ^ ((j : Int)).toNat) = ((2 ^ j : Nat) : Int) * ((2 ^ (-(j : Int)).toNat : Nat) : Int)
    rw [show (-(j : Int)).toNat = 0 by omega, show ((j : Int)).toNat = j by omega]
    simp [Core.signed]
  have h2 := Core.whole_product ha h1
  have e2 : Core.exactProduct (sh k (.fin s c q)) (.fin false 1 (j : Int)) = sh ((k + j : Nat) : Int) (.fin s c q) := by
    show Core.Datum.fin (s != false) (c * 1) (q + (k : Int) + (j : Int)) = Core.Datum.fin s c (q + ((k + j : Nat) : Int))
    rw [Nat.mul_one, show (s != false) = s by cases s <;> rfl, show q + (k : Int) + (j : Int) = q + ((k + j : Nat) : Int) by omega]
  rw [e2] at h2
  exact h2
theorem whole_unscale {i : Int} {s : Bool} {c j : Nat} {q : Int} (h : Core.Whole (i * ((2 ^ j : Nat) : Int)) (.fin s c (q + (j : Int)))) : Core.Whole i (.fin s c q) := by
  have h1 : Core.signed s (c * 2 ^ (q + (j : Int)).toNat) = i * ((2 ^ j : Nat) : Int) * ((2 ^ (-(q + (j : Int))).toNat : Nat) : Int) := h
  show Core.signed s (c * 2 ^ q.toNat) = i * ((2 ^ (-q).toNat : Nat) : Int)
  have p2 : ((2 ^ j * 2 ^ (-(q + (j : Int))).toNat : Nat) : Int) ≠ 0 := by
    have := Nat.mul_pos (Nat.two_pow_pos j) (Nat.two_pow_pos (-(q + (j : Int))).toNat); omega
  refine Int.eq_of_mul_eq_mul_right p2 ?_
  have hx : q.toNat + (j + (-(q + (j : Int))).toNat) = (q + (j : Int)).toNat + (-q).toNat := by omega
  calc Core.signed s (c * 2 ^ q.toNat) * ((2 ^ j * 2 ^ (-(q + (j : Int))).toNat : Nat) : Int)
      = Core.signed s (c * 2 ^ (q.toNat + (j + (-(q + (j : Int))).toNat))) := by
        rw [← Core.signed_mul, Nat.pow_add 2 q.toNat, Nat.pow_add 2 j, Nat.mul_assoc c]
    _ = Core.signed s (c * 2 ^ (q + (j : Int)).toNat * 2 ^ (-q).toNat) := by rw [hx, Nat.pow_add, Nat.mul_assoc c]
    _ = i * ((2 ^ j : Nat) : Int) * ((2 ^ (-(q + (j : Int))).toNat : Nat) : Int) * ((2 ^ (-q).toNat : Nat) : Int) := by rw [Core.signed_mul, h1]
    _ = i * ((2 ^ (-q).toNat : Nat) : Int) * ((2 ^ j * 2 ^ (-(q + (j : Int))).toNat : Nat) : Int) := by rw [Int.natCast_mul]; ac_rfl
theorem sh_unscale {i : Int} {k j : Nat} {d : Core.Datum} (h : Core.Whole (i * ((2 ^ j : Nat) : Int)) (sh ((k + j : Nat) : Int) d)) : Core.Whole i (sh k d) := by
  cases d with
  | nan => exact h.elim
  | inf => exact h.elim
  | fin s c q =>
    refine whole_unscale (j := j) ?_
    have e : q + ((k + j : Nat) : Int) = q + (k : Int) + (j : Int) := by omega
    have h' : Core.Whole (i * ((2 ^ j : Nat) : Int)) (.fin s c (q + ((k + j : Nat) : Int))) := h
    rw [e] at h'; exact h'
theorem Dy.unscale {i : Int} {k j : Nat} {u : UInt64} (h : Dy (i * ((2 ^ j : Nat) : Int)) (k + j) u) : Dy i k u := sh_unscale h
theorem Dy.mulTo {i j n : Int} {k l r t : Nat} {a b : UInt64} (ha : Dy i k a) (hb : Dy j l b) (hn : i * j = n * ((2 ^ t : Nat) : Int)) (hr : k + l = r + t) (h : n.natAbs ≤ 2 ^ 53) (hk : r ≤ 1000) : Dy n r (FP.dmul a b) := by
  unfold Dy
  rw [show Core.val64 (FP.dmul a b) = _ from Core.val64_dmul a b]
  refine round_dy (sh_unscale (j := t) ?_) h hk
  have h1 := Core.whole_product ha hb
  rw [sh_prod, hn, ← Int.natCast_add, hr] at h1
  exact h1
theorem Dy.cast {i i' : Int} {k k' : Nat} {a : UInt64} (ha : Dy i k a) (hi : i = i') (hk : k = k') : Dy i' k' a := by subst hi hk; exact ha
theorem Dy.unique {i : Int} {k : Nat} {a b : UInt64} (ha : Dy i k a) (hb : Dy i k b) (hi : i ≠ 0) : a = b := by
  obtain ⟨s, c, q, e⟩ := ha.shape
  obtain ⟨t, d, r, e'⟩ := hb.shape
  refine Core.val64_inj ha.ne_nan ?_
  have f1 := Core.round_of_fits Core.good_b64 (Core.val64_fits a)
  have f2 := Core.round_of_fits Core.good_b64 (Core.val64_fits b)
  have ha' := ha; have hb' := hb
  unfold Dy at ha' hb'
  rw [e] at ha' f1; rw [e'] at hb' f2
  rw [e, e', ← f1, ← f2, round_eq ha', round_eq hb', Core.whole_sign (show Core.Whole i (.fin s c (q + (k : Int))) from ha') hi, Core.whole_sign (show Core.Whole i (.fin t d (r + (k : Int))) from hb') hi]
/-- the quotient of two dyadics, the divisor positive, is the ratio rounded -/
theorem div_val {i j : Int} {k : Nat} {a b : UInt64} (ha : Dy i k a) (hb : Dy j 0 b) (hj : 0 < j) : ∃ s, Core.signed s i.natAbs = i ∧ Core.val64 (FP.ddiv a b) = Core.roundRatio Core.b64 s i.natAbs j.natAbs (-(k : Int)) := by
  obtain ⟨s, c, q, e⟩ := ha.shape
  obtain ⟨t, d, r, e'⟩ := hb.shape
  have ha' := ha; have hb' := hb
  unfold Dy at ha' hb'
  rw [e] at ha'; rw [e', sh_zero] at hb'
  have ha2 : Core.Whole i (.fin s c (q + (k : Int))) := ha'
  have ht : t = false := by rw [Core.whole_sign hb' (by omega)]; simp; omega
  have hd : d ≠ 0 := fun hd => by have := (Core.whole_zero hb').mp hd; omega
  refine ⟨s, sgn_whole ha2, ?_⟩
  rw [show Core.val64 (FP.ddiv a b) = _ from Core.val64_ddiv a b, e, e']
  show (if d = 0 then (if c = 0 then Core.Datum.nan else .inf (s != t)) else Core.roundRatio Core.b64 (s != t) c d (q - r)) = _
  rw [if_neg hd, ht, show (s != false) = s by cases s <;> rfl]
  refine Core.roundRatio_congr (by omega) (by omega) ?_
  have h1 := Core.whole_natAbs ha2
  have h2 := Core.whole_natAbs hb'
  rw [show (q - r - -(k : Int)) = (q + (k : Int)) - r by omega, show (-(k : Int) - (q - r)) = r - (q + (k : Int)) by omega]
  generalize q + (k : Int) = A at h1 ⊢
  generalize i.natAbs = I at h1 ⊢
  generalize j.natAbs = J at h2 ⊢
  refine Nat.eq_of_mul_eq_mul_right (Nat.mul_pos (Nat.two_pow_pos (-A).toNat) (Nat.two_pow_pos r.toNat)) ?_
  have hx : (A - r).toNat + ((-A).toNat + r.toNat) = A.toNat + (-r).toNat + (r - A).toNat := by omega
  calc c * J * 2 ^ (A - r).toNat * (2 ^ (-A).toNat * 2 ^ r.toNat)
      = c * J * 2 ^ ((A - r).toNat + ((-A).toNat + r.toNat)) := by rw [Nat.pow_add, Nat.pow_add]; ac_rfl
    _ = (c * 2 ^ A.toNat) * (J * 2 ^ (-r).toNat) * 2 ^ (r - A).toNat := by rw [hx, Nat.pow_add, Nat.pow_add]; ac_rfl
    _ = (I * 2 ^ (-A).toNat) * (d * 2 ^ r.toNat) * 2 ^ (r - A).toNat := by rw [h1, h2]
    _ = I * d * 2 ^ (r - A).toNat * (2 ^ (-A).toNat * 2 ^ r.toNat) := by ac_rfl
theorem Dy.div {i j m : Int} {k : Nat} {a b : UInt64} (ha : Dy i k a) (hb : Dy j 0 b) (hj : 0 < j) (hm : i = m * j) (h : m.natAbs ≤ 2 ^ 53) (hk : k ≤ 1000) : Dy m k (FP.ddiv a b) := by
  obtain ⟨s, hs, e⟩ := div_val ha hb hj
  unfold Dy
  have hn : i.natAbs = m.natAbs * j.natAbs := by rw [hm, Int.natAbs_mul]
  have e2 : Core.roundRatio Core.b64 s i.natAbs j.natAbs (-(k : Int)) = Core.roundRatio Core.b64 s m.natAbs 1 (-(k : Int)) := by
    refine Core.roundRatio_congr (by omega) (by decide) ?_
    rw [hn, Nat.mul_one]
  rw [e, e2]
  refine whole_ratio s ?_ h hk
  have h3 : Core.signed s i.natAbs = Core.signed s m.natAbs * j := by
    rw [hn, Core.signed_mul, show ((j.natAbs : Nat) : Int) = j by omega]
  rw [hs, hm] at h3
  exact (Int.eq_of_mul_eq_mul_right (by omega) h3).symm
/-- equal ratios, equally rounded -/
theorem div_cmp_eq {i j i' j' : Int} {k k' : Nat} {a b a' b' : UInt64} (ha : Dy i k a) (hb : Dy j 0 b) (hj : 0 < j) (ha' : Dy i' k' a') (hb' : Dy j' 0 b') (hj' : 0 < j') (hk : k ≤ 1000) (hk' : k' ≤ 1000)
    (h : i * j' * (2 ^ k' : Nat) = i' * j * (2 ^ k : Nat)) : FP.dcmp (FP.ddiv a b) (FP.ddiv a' b') = some .eq := by
  by_cases hi : i = 0
  · subst hi
    have hi' : i' = 0 := by
      rw [Int.zero_mul, Int.zero_mul] at h
      have p1 : ((2 ^ k : Nat) : Int) ≠ 0 := by have := Nat.two_pow_pos k; omega
      rcases Int.mul_eq_zero.mp h.symm with q | q
      · rcases Int.mul_eq_zero.mp q with q | q
        · exact q
        · omega
      · exact absurd q p1
    subst hi'
    have d1 := (ha.div hb hj (m := 0) (by omega) (by decide) hk).scale k'
    have d2 := (ha'.div hb' hj' (m := 0) (by omega) (by decide) hk').scale k
    have e2 : k' + k = k + k' := by omega
    rw [Dy.cmp d1 (d2.cast rfl e2)]
    simp [Core.compare_self_int]
  · obtain ⟨s, hs, e⟩ := div_val ha hb hj
    obtain ⟨s', hs', e'⟩ := div_val ha' hb' hj'
    have n1 := congrArg Int.natAbs h
    rw [Int.natAbs_mul, Int.natAbs_mul, Int.natAbs_mul, Int.natAbs_mul, Int.natAbs_natCast, Int.natAbs_natCast] at n1
    have p1 : (0 : Int) < ((2 ^ k : Nat) : Int) := by have := Nat.two_pow_pos k; omega
    have p2 : (0 : Int) < ((2 ^ k' : Nat) : Int) := by have := Nat.two_pow_pos k'; omega
    have hss : s = s' := by
      have q1 : (0 < i ↔ 0 < i') := by
        have a1 : (0 < i * j' * ((2 ^ k' : Nat) : Int)) ↔ 0 < i := by
          rw [Int.mul_assoc]; exact mpos (Int.mul_pos hj' p2)
        have a2 : (0 < i' * j * ((2 ^ k : Nat) : Int)) ↔ 0 < i' := by
          rw [Int.mul_assoc]; exact mpos (Int.mul_pos hj p1)
        rw [← a1, ← a2, h]
      have hi' : i' ≠ 0 := fun z => by
        rw [z, Int.zero_mul, Int.zero_mul] at h
        rcases Int.mul_eq_zero.mp h with q | q
        · rcases Int.mul_eq_zero.mp q with q | q
          · exact hi q
          · omega
        · omega
      unfold Core.signed at hs hs'
      cases s <;> cases s' <;> simp at hs hs' ⊢ <;> omega
    have ev : Core.val64 (FP.ddiv a b) = Core.val64 (FP.ddiv a' b') := by
      rw [e, e', hss]
      refine Core.roundRatio_congr (by omega) (by omega) ?_
      rcases Nat.le_total k k' with q | q
      · obtain ⟨z, rfl⟩ : ∃ z, k' = k + z := ⟨k' - k, by omega⟩
        rw [show (-(k : Int) - -((k + z : Nat) : Int)).toNat = z by omega, show (-((k + z : Nat) : Int) - -(k : Int)).toNat = 0 by omega, Nat.pow_zero, Nat.mul_one]
        rw [Nat.pow_add] at n1
        refine Nat.eq_of_mul_eq_mul_right (Nat.two_pow_pos k) ?_
        rw [← n1]; ac_rfl
      · obtain ⟨z, rfl⟩ : ∃ z, k = k' + z := ⟨k - k', by omega⟩
        rw [show (-((k' + z : Nat) : Int) - -(k' : Int)).toNat = 0 by omega, show (-(k' : Int) - -((k' + z : Nat) : Int)).toNat = z by omega, Nat.pow_zero, Nat.mul_one]
        rw [Nat.pow_add] at n1
        refine Nat.eq_of_mul_eq_mul_right (Nat.two_pow_pos k') ?_
        rw [n1]; ac_rfl
    have nn : Core.val64 (FP.ddiv a b) ≠ .nan := by rw [e]; exact Core.roundRatio_ne_nan _ _ _ _ _
    show Core.order (Core.val64 (FP.ddiv a b)) (Core.val64 (FP.ddiv a' b')) = _
    rw [← ev]
    exact Core.order_self nn
theorem div_noNaN {i j : Int} {k : Nat} {a b : UInt64} (ha : Dy i k a) (hb : Dy j 0 b) (hj : 0 < j) : NoNaN64 (FP.ddiv a b) := by
  obtain ⟨s, hs, e⟩ := div_val ha hb hj
  exact val64_no.mpr (by rw [e]; exact Core.roundRatio_ne_nan _ _ _ _ _)
/-- what dcmpl and dcmpg push -/
theorem cmpV_of (i j : Int) (o : ClassFile.CmpOp) : Op.cmpValue (some (compare i j)) o = if i < j then -1 else if i = j then 0 else 1 := by
  rw [Core.compare_ite]
  by_cases h1 : i < j
  · rw [if_pos h1, if_pos h1]; cases o <;> rfl
  · rw [if_neg h1, if_neg h1]
    by_cases h2 : i = j
    · rw [if_pos h2, if_pos h2]; cases o <;> rfl
    · rw [if_neg h2, if_neg h2]; cases o <;> rfl
theorem Dy.cmpV {i j : Int} {k : Nat} {a b : UInt64} (ha : Dy i k a) (hb : Dy j k b) (o : ClassFile.CmpOp) : Op.cmpValue (FP.dcmp a b) o = if i < j then -1 else if i = j then 0 else 1 := by
  rw [Dy.cmp ha hb]; exact cmpV_of i j o
theorem dy_zero : Dy 0 0 FP.dconst0 := by
  unfold Dy; rw [sh_zero, show Core.val64 FP.dconst0 = .fin false 0 Core.b64.qmin from Core.val64_dconst0]
  show Core.signed false (0 * _) = 0 * _
  rw [Nat.zero_mul, Int.zero_mul]; rfl
theorem dy_one : Dy 1 0 FP.dconst1 := by
  unfold Dy; rw [sh_zero, show Core.val64 FP.dconst1 = .fin false (2 ^ 52) (-52) from Core.val64_dconst1]
  show Core.signed false (2 ^ 52 * 2 ^ (-52 : Int).toNat) = 1 * ((2 ^ (-(-52 : Int)).toNat : Nat) : Int)
  decide
theorem Dy.of_bits {u : UInt64} {c : Nat} {q : Int} {i : Int} {k : Nat} (h : Core.val64 u = .fin false c q) (hi : ((c * 2 ^ (q + k).toNat : Nat) : Int) = i * ((2 ^ (-(q + k)).toNat : Nat) : Int)) : Dy i k u := by
  unfold Dy; rw [h]; exact hi
theorem Dy.maxz {i : Int} {u : UInt64} (h : Dy i 0 u) : Dy (max i 0) 0 (Jvm.Native.java_lang_Math.nans.pick64 true u FP.dconst0) := by
  have e := Dy.cmp h dy_zero
  unfold Jvm.Native.java_lang_Math.nans.pick64
  rw [e, Core.compare_ite]
  by_cases h1 : i < 0
  · rw [if_pos h1]; exact dy_zero.cast (by omega) rfl
  · rw [if_neg h1]
    by_cases h2 : i = 0
    · rw [if_pos h2]
      show Dy (max i 0) 0 (if ((u >>> 63 == 1) == true) = true then FP.dconst0 else u)
      split
      · exact dy_zero.cast (by omega) rfl
      · exact h.cast (by omega) rfl
    · rw [if_neg h2]; exact h.cast (by omega) rfl
theorem Dy.i2d (x : Int32) : Dy x.toInt 0 (FP.i2d x) := Dy.of_int (Core.i2d_int x)
theorem Dy.l2d {x : Int64} (h : x.toInt.natAbs ≤ 2 ^ 53) : Dy x.toInt 0 (FP.l2d x) := Dy.of_int (Core.l2d_int h)
end Jvm.OwnF
namespace Jvm.OwnF
open Sem ClassFile Op Lib Jvm.Stand Jvm.Free Jvm.LawKit Jvm.RoadKit
/-! Gar Z h a ty N f: at a there is an array of ty, N long, with f i at every place i < N. -/
def Gar (Z : State) (h : Heap) (a : Addr) (ty : FieldType) (N : Nat) (f : Nat → Value) : Prop := ∃ c : Cell, Arr Z h a c ty ∧ c.slots.size = N ∧ ∀ i, i < N → c.slots[i]? = some (f i)
section
variable {Z : State} {h h' : Heap} {a b : Addr} {ty : FieldType} {N : Nat} {f g : Nat → Value} {sl : Nat} {v : Value} {ws : List Addr}
theorem Gar.lt (F : Gar Z h a ty N f) : a < h.size := by obtain ⟨c, A, -⟩ := F; exact A.lt
theorem Gar.ext (F : Gar Z h a ty N f) (E : Ext h h') : Gar Z h' a ty N f := by obtain ⟨c, A, r⟩ := F; exact ⟨c, A.ext E, r⟩
theorem Gar.other (F : Gar Z h b ty N f) (W : Wr h h' a sl v) (q : b ≠ a) : Gar Z h' b ty N f := by obtain ⟨c, A, r⟩ := F; exact ⟨c, A.other W q, r⟩
theorem Gar.keep (F : Gar Z h a ty N f) (K : Keep h h' ws) (q : a ∉ ws) : Gar Z h' a ty N f := by obtain ⟨c, A, r⟩ := F; exact ⟨c, ⟨K.2.1 a c A.1 q, A.2⟩, r⟩
theorem Gar.congr (F : Gar Z h a ty N f) (q : ∀ i, i < N → f i = g i) : Gar Z h a ty N g := by obtain ⟨c, A, S, H⟩ := F; exact ⟨c, A, S, fun i hi => by rw [H i hi, q i hi]⟩
theorem Gar.len (F : Gar Z h a ty N f) {M : Nat} (q : N = M) : Gar Z h a ty M f := q ▸ F
theorem Gar.new {k : ClassId} {z : Int32} (A : Arr Z h a (newA k ty z) ty) : Gar Z h a ty z.toNatClampNeg (fun _ => defaultValue ty) :=
  ⟨_, A, sz_new _ _ _, fun i hi => by simp [newA, hi]⟩
theorem Gar.set (F : Gar Z h a ty N f) (W : Wr h h' a sl v) : Gar Z h' a ty N (fun i => if i = sl then v else f i) := by
  obtain ⟨c, A, S, H⟩ := F
  obtain ⟨c', q1, q2, q3, q4, q5, q6, q7⟩ := wr_at W A.1
  obtain ⟨r1, r2, r3⟩ := q7 rfl
  have A' := Arr.same W A
  have e : c' = c.setSlot sl v := r1
  refine ⟨c', by rw [e]; exact A', by rw [q4]; exact S, fun i hi => ?_⟩
  show c'.slots[i]? = some (if i = sl then v else f i)
  by_cases z : i = sl
  · rw [if_pos z, z]; exact r2
  · rw [if_neg z, q6 i z]; exact H i hi
theorem Gar.ne {N' : Nat} {f' : Nat → Value} {ty' : FieldType} (F : Gar Z h a ty N f) (G : Gar Z h b ty' N' f') (q : N ≠ N') : a ≠ b := fun e => by
  obtain ⟨c, A, S, -⟩ := F
  obtain ⟨c', A', S', -⟩ := G
  subst e
  have := A.1.symm.trans A'.1
  cases this
  omega
end
section
variable {p : Program} {l : Launch} {e : Env} {R : Room} {s : State} {m : MethodId} {args : Array Value} {below : List Frame} {meth : Method} {c : Code} {T : State} {locs : List Loc} {cells slots : Nat} {Z : State} {h : Heap} {a : Addr} {N : Nat} {f : Nat → Value}
theorem in_of {c : Cell} {j : Int32} (S : c.slots.size = N) (hj : ¬ j < 0) (hN : j.toNatClampNeg < N) : ¬ (j < 0 ∨ c.slots.size ≤ j.toNatClampNeg) := fun q => q.elim hj fun z => by omega
theorem ldD (X : Stand p l e R s m args below meth c T locs cells slots) (hx : p.tables.exec = Jvm.exec) (hZ : Z.Warmed39 s.vm) (eT : T.heap = h) (A : Gar Z h a .double N f) {j : Int32} (hj : ¬ j < 0) (hN : j.toNatClampNeg < N) {v : Value} (hv : f j.toNatClampNeg = v) {g : JFrame} (hg : g.method = m) {rest : List Value} (hs : g.stack = .int j :: .ref a :: rest) (hd : decode c.code g.pc = .ok (.daload, 1)) (target : State)
    (hr : Steps p.tables e below (T.setTop { g with pc := g.pc + 1, stack := v :: rest }) target) : Steps p.tables e below (T.setTop g) target := by
  obtain ⟨cl, Ar, S, H⟩ := A
  exact X.daload hx (by rw [eT]; exact Ar.1) (State.isArrayOf_alike hZ.alike Ar.2.1) Ar.2.2 (in_of S hj hN) (by rw [H _ hN, hv]) hg hs hd target hr
theorem ldI (X : Stand p l e R s m args below meth c T locs cells slots) (hx : p.tables.exec = Jvm.exec) (hZ : Z.Warmed39 s.vm) (eT : T.heap = h) (A : Gar Z h a .int N f) {j : Int32} (hj : ¬ j < 0) (hN : j.toNatClampNeg < N) {v : Value} (hv : f j.toNatClampNeg = v) {g : JFrame} (hg : g.method = m) {rest : List Value} (hs : g.stack = .int j :: .ref a :: rest) (hd : decode c.code g.pc = .ok (.iaload, 1)) (target : State)
    (hr : Steps p.tables e below (T.setTop { g with pc := g.pc + 1, stack := v :: rest }) target) : Steps p.tables e below (T.setTop g) target := by
  obtain ⟨cl, Ar, S, H⟩ := A
  exact X.iaload hx (by rw [eT]; exact Ar.1) (State.isArrayOf_alike hZ.alike Ar.2.1) Ar.2.2 (in_of S hj hN) (by rw [H _ hN, hv]) hg hs hd target hr
theorem lnG {ty : FieldType} (X : Stand p l e R s m args below meth c T locs cells slots) (hx : p.tables.exec = Jvm.exec) (hZ : Z.Warmed39 s.vm) (eT : T.heap = h) (A : Gar Z h a ty N f) {z : Int32} (hz : N.toInt32 = z) {g : JFrame} (hg : g.method = m) {rest : List Value} (hs : g.stack = .ref a :: rest) (hd : decode c.code g.pc = .ok (.arraylength, 1)) (target : State)
    (hr : Steps p.tables e below (T.setTop { g with pc := g.pc + 1, stack := .int z :: rest }) target) : Steps p.tables e below (T.setTop g) target := by
  obtain ⟨cl, Ar, S, H⟩ := A
  refine X.arraylength hx (by rw [eT]; exact Ar.1) (State.isArrayOf_alike hZ.alike Ar.2.1) hg hs hd target ?_
  rw [S, hz]; exact hr
theorem stDG (X : Stand p l e R s m args below meth c T locs cells slots) (hx : p.tables.exec = Jvm.exec) (hZ : Z.Warmed39 s.vm) (eT : T.heap = h) (A : Gar Z h a .double N f) {j : Int32} {x : UInt64} (hj : ¬ j < 0) (hN : j.toNatClampNeg < N) {g : JFrame} (hg : g.method = m) {rest : List Value} (hs : g.stack = .double x :: .int j :: .ref a :: rest) (hd : decode c.code g.pc = .ok (.dastore, 1)) :
    ∃ T' h', Stand p l e R s m args below meth c T' (locs ++ [⟨a, j.toNatClampNeg⟩]) cells slots ∧ T'.heap = h' ∧ Wr h h' a j.toNatClampNeg (.double x) ∧ ∀ target, Steps p.tables e below (T'.setTop { g with pc := g.pc + 1, stack := rest }) target → Steps p.tables e below (T.setTop g) target := by
  obtain ⟨cl, Ar, S, H⟩ := A
  exact stD X hx hZ eT Ar (in_of S hj hN) hg hs hd
theorem stIG (X : Stand p l e R s m args below meth c T locs cells slots) (hx : p.tables.exec = Jvm.exec) (hZ : Z.Warmed39 s.vm) (eT : T.heap = h) (A : Gar Z h a .int N f) {j : Int32} {x : Int32} (hj : ¬ j < 0) (hN : j.toNatClampNeg < N) {g : JFrame} (hg : g.method = m) {rest : List Value} (hs : g.stack = .int x :: .int j :: .ref a :: rest) (hd : decode c.code g.pc = .ok (.iastore, 1)) :
    ∃ T' h', Stand p l e R s m args below meth c T' (locs ++ [⟨a, j.toNatClampNeg⟩]) cells slots ∧ T'.heap = h' ∧ Wr h h' a j.toNatClampNeg (.int x) ∧ ∀ target, Steps p.tables e below (T'.setTop { g with pc := g.pc + 1, stack := rest }) target → Steps p.tables e below (T.setTop g) target := by
  obtain ⟨cl, Ar, S, H⟩ := A
  exact stI X hx hZ eT Ar (in_of S hj hN) hg hs hd
theorem clG {ty : FieldType} (X : Stand p l e R s m args below meth c T locs cells slots) (hx : p.tables.exec = Jvm.exec) (hZ : Z.Warmed39 s.vm) {a0 : Array Value} {own ad : String} {index : Nat} (hown : s.vm.findClass own = some m.cls)
    (w1 : (Cond.methodLink own index ⟨ad, "clone", "()Ljava/lang/Object;"⟩).before a0 Z = true) (w2 : (Cond.sameMethod ad "java/lang/Object" "clone" "()Ljava/lang/Object;").before a0 Z = true) (w3 : (Cond.native ⟨"java/lang/Object", "clone", "()Ljava/lang/Object;"⟩).before a0 Z = true)
    (w4 : (Cond.instanceMethod ⟨"java/lang/Object", "clone", "()Ljava/lang/Object;"⟩).before a0 Z = true) (w5 : (Cond.selects ad ⟨ad, "clone", "()Ljava/lang/Object;"⟩ ⟨"java/lang/Object", "clone", "()Ljava/lang/Object;"⟩).before a0 Z = true) (w6 : (Cond.castable ad "java/lang/Cloneable").before a0 Z = true)
    (eT : T.heap = h) (A : Gar Z h a ty N f) (E : Exa Z h a ad) (hfit : ∀ i, i < N → fits ty (f i) = true) {g : JFrame} (hg : g.method = m) (hsize : g.locals.size = c.maxLocals) {rest : List Value} (hst : g.stack = .ref a :: rest) (hd : decode c.code g.pc = .ok (.invokevirtual index, 3))
    (hf : 1 ≤ R.frames) {W cap : Nat} (hW : 2 * g.monitorRoom + (rest.map fun v => v.category).sum ≤ W) (hl : W + 14 ≤ R.locals) (hcap : N ≤ cap) (hc : cells + 1 ≤ R.cells) (hsl : slots + cap ≤ R.slots) :
    ∃ T' h', Stand p l e R s m args below meth c T' locs (cells + 1) (slots + cap) ∧ T'.heap = h' ∧ Ext h h' ∧ Gar Z h' h.size ty N f ∧ Exa Z h' h.size ad ∧
      ∀ target, Steps p.tables e below (T'.setTop { g with pc := g.pc + 3, stack := .ref h.size :: rest }) target → Steps p.tables e below (T.setTop g) target := by
  obtain ⟨cl, Ar, S, H⟩ := A
  have FC : FitC Z cl := fitC_of Ar fun i hi v hv => by rw [H i (by omega)] at hv; cases hv; exact hfit i (by omega)
  obtain ⟨T', h', X', e', ex, A', E', st⟩ := cloneA X hx hZ hown w1 w2 w3 w4 w5 w6 eT Ar E FC hg hsize hst hd hf hW hl (by rw [S]; exact hcap) hc hsl
  exact ⟨T', h', X', e', ex, ⟨cloneOf cl, A', S, H⟩, E', st⟩
end
end Jvm.OwnF
namespace Jvm.RoadKit
open Sem ClassFile Op Lib Jvm.Stand Jvm.Free Jvm.LawKit
section New
variable {p : Program} {l : Launch} {e : Env} {R : Room} {s : State} {m : MethodId} {args : Array Value} {below : List Frame} {meth : Method} {c : Code} {T : State} {locs : List Loc} {cells slots : Nat}
theorem retI (X : Stand p l e R s m args below meth c T locs cells slots) (hx : p.tables.exec = Jvm.exec) {pc : Nat} {Ls : Array Slot} {z : Int32} {rest : List Value} (hret : meth.sig.returnType = some .int) (hd : decode c.code pc = .ok (.ireturn, 1)) {fs : List Frame}
    (hl : ∀ (f : JFrame) (acts : List Action), f.method = m → f.locked = none → f.entered = [] → (doReturn e (T.setTop f) acts (some (.int z))).1 = T.setFrames fs) : Steps p.tables e below (T.setTop (mkF m pc Ls (.int z :: rest))) (T.setFrames fs) := by
  have hm' : T.vm.method? m = some meth := X.method'
  have hn : narrow .int (.int z) = .int z := rfl
  show Steps p.tables e below (T.setTop { method := m, pc := pc, locals := Ls, stack := _ :: rest, locked := none }) _
  jvm_step X.here [X.here.top, hx, hd, hm', hret, hn]
  first | (intro acts; rw [hl _ acts rfl rfl rfl]) | rw [hl _ _ rfl rfl rfl]
  exact Steps.refl _
theorem retD (X : Stand p l e R s m args below meth c T locs cells slots) (hx : p.tables.exec = Jvm.exec) {pc : Nat} {Ls : Array Slot} {z : UInt64} {rest : List Value} (hret : meth.sig.returnType = some .double) (hd : decode c.code pc = .ok (.dreturn, 1)) {fs : List Frame}
    (hl : ∀ (f : JFrame) (acts : List Action), f.method = m → f.locked = none → f.entered = [] → (doReturn e (T.setTop f) acts (some (.double z))).1 = T.setFrames fs) : Steps p.tables e below (T.setTop (mkF m pc Ls (.double z :: rest))) (T.setFrames fs) := by
  have hm' : T.vm.method? m = some meth := X.method'
  have hn : narrow .double (.double z) = .double z := rfl
  show Steps p.tables e below (T.setTop { method := m, pc := pc, locals := Ls, stack := _ :: rest, locked := none }) _
  jvm_step X.here [X.here.top, hx, hd, hm', hret, hn]
  first | (intro acts; rw [hl _ acts rfl rfl rfl]) | rw [hl _ _ rfl rfl rfl]
  exact Steps.refl _
theorem retB (X : Stand p l e R s m args below meth c T locs cells slots) (hx : p.tables.exec = Jvm.exec) {pc : Nat} {Ls : Array Slot} {z : Int32} {rest : List Value} (hret : meth.sig.returnType = some .boolean) (hz : z = 0 ∨ z = 1) (hd : decode c.code pc = .ok (.ireturn, 1)) {fs : List Frame}
    (hl : ∀ (f : JFrame) (acts : List Action), f.method = m → f.locked = none → f.entered = [] → (doReturn e (T.setTop f) acts (some (.int z))).1 = T.setFrames fs) : Steps p.tables e below (T.setTop (mkF m pc Ls (.int z :: rest))) (T.setFrames fs) := by
  have q : nar .boolean z = z := by rcases hz with rfl | rfl <;> rfl
  refine retN X hx hret (Or.inl rfl) hd ?_
  rw [q]; exact hl
end New
end Jvm.RoadKit
namespace Jvm.Pilot.@@N@@
open Jvm Jvm.ClassFile Sem Op Lib Jvm.Free Jvm.Stand Jvm.LawKit Jvm.RoadKit Bundle Jvm.Pilot.@@N@@.Jvm.D Jvm.OwnF Jvm.Free.Fl
def SVf (Z : State) (h : Heap) (po : Addr) (d : Int32) (ps vs : Addr) (fr to : Int32) : Prop := Exa Z h po "com/example/polytome/polytome/model/SparseVector" ∧ Fld Z h po "com/example/polytome/polytome/model/SparseVector" "dimension" "I" (.int d) ∧ Fld Z h po "com/example/polytome/polytome/model/SparseVector" "positions" "[I" (.ref ps) ∧ Fld Z h po "com/example/polytome/polytome/model/SparseVector" "values" "[D" (.ref vs) ∧ Fld Z h po "com/example/polytome/polytome/model/SparseVector" "from" "I" (.int fr) ∧ Fld Z h po "com/example/polytome/polytome/model/SparseVector" "to" "I" (.int to)
def wrt (fp : Nat → Int32) (fv : Nat → UInt64) (s : Nat) : Nat → Nat → UInt64
  | 0, _ => 0
  | n + 1, i => if i = (fp (s + n)).toNatClampNeg then fv (s + n) else wrt fp fv s n i
theorem nn_of {x : Int32} (h : 0 ≤ x.toInt) : ¬ x < 0 := fun q => by have := Int32.lt_iff_toInt_lt.mp q; rw [show (0 : Int32).toInt = 0 by decide] at this; omega
theorem tn_of {x : Int32} (h : 0 ≤ x.toInt) : (x.toNatClampNeg : Int) = x.toInt := Int.toNat_of_nonneg h
def own_e (i k p0 p1 p2 : Int32) (v0 v1 v2 : UInt64) : UInt64 := if ¬ k < (1 : Int32) ∧ i = p0 then v0 else if ¬ k < (2 : Int32) ∧ i = p1 then v1 else if ¬ k < (3 : Int32) ∧ i = p2 then v2 else FP.dconst0
def own_c (k p0 p1 p2 : Int32) (v0 v1 v2 : UInt64) (i : Nat) : UInt64 := match k.toNatClampNeg with
  | 0 => 0
  | 1 => if i = p0.toNatClampNeg then v0 else 0
  | 2 => if i = p1.toNatClampNeg then v1 else if i = p0.toNatClampNeg then v0 else 0
  | _ => if i = p2.toNatClampNeg then v2 else if i = p1.toNatClampNeg then v1 else if i = p0.toNatClampNeg then v0 else 0
def own_p (p0 p1 p2 : Int32) : Nat → Int32
  | 0 => p0
  | 1 => p1
  | _ => p2
def own_v (v0 v1 v2 : UInt64) : Nat → UInt64
  | 0 => v0
  | 1 => v1
  | _ => v2
def own_p5 (p0 p1 p2 : Int32) : Nat → Int32
  | 0 => 0
  | 1 => p0
  | 2 => p1
  | 3 => p2
  | _ => 0
def own_v5 (v0 v1 v2 jk : UInt64) : Nat → UInt64
  | 0 => jk
  | 1 => v0
  | 2 => v1
  | 3 => v2
  | _ => jk
theorem own_sel (x : Int32) : (x &&& (3 : Int32)) = 0 ∨ (x &&& (3 : Int32)) = 1 ∨ (x &&& (3 : Int32)) = 2 ∨ (x &&& (3 : Int32)) = 3 := by
  have h := c_mask x 3 2 (by decide) (by decide)
  have q : (x &&& (3 : Int32)).toInt = 0 ∨ (x &&& (3 : Int32)).toInt = 1 ∨ (x &&& (3 : Int32)).toInt = 2 ∨ (x &&& (3 : Int32)).toInt = 3 := by omega
  rcases q with q | q | q | q
  · exact Or.inl (Int32.toInt_inj.mp q)
  · exact Or.inr (Or.inl (Int32.toInt_inj.mp q))
  · exact Or.inr (Or.inr (Or.inl (Int32.toInt_inj.mp q)))
  · exact Or.inr (Or.inr (Or.inr (Int32.toInt_inj.mp q)))
theorem own_m3 (x : Int32) : 0 ≤ (x &&& (3 : Int32)).toInt ∧ (x &&& (3 : Int32)).toInt ≤ 3 := by
  have h := c_mask x 3 2 (by decide) (by decide)
  omega
theorem own_nx {p : Int32} (h0 : 0 ≤ p.toInt) (h1 : p.toInt ≤ 100) (x : Int32) : p.toInt < ((p + (1 : Int32)) + (x &&& (3 : Int32))).toInt ∧ ((p + (1 : Int32)) + (x &&& (3 : Int32))).toInt ≤ p.toInt + 4 := by
  have h := own_m3 x
  have q1 := c_iadd p 1; have r1 := rng32 (p + (1 : Int32)); rw [show (1 : Int32).toInt = 1 by decide] at q1
  have q2 := c_iadd (p + (1 : Int32)) (x &&& (3 : Int32)); have r2 := rng32 ((p + (1 : Int32)) + (x &&& (3 : Int32)))
  omega
theorem own_p1 {p : Int32} (h0 : 0 ≤ p.toInt) (h1 : p.toInt ≤ 100) : (p + (1 : Int32)).toInt = p.toInt + 1 := by
  have q1 := c_iadd p 1; have r1 := rng32 (p + (1 : Int32)); rw [show (1 : Int32).toInt = 1 by decide] at q1; omega
theorem own_svkeep {Z : State} {h h' : Heap} {po ps vs : Addr} {d fr to : Int32} (H : SVf Z h po d ps vs fr to) (K : Keep h h' []) : SVf Z h' po d ps vs fr to := by
  obtain ⟨a, b, c, d, e, f⟩ := H
  exact ⟨a.keep K, b.keep K nin0, c.keep K nin0, d.keep K nin0, e.keep K nin0, f.keep K nin0⟩
theorem own_eqn {i p : Int32} (hi : 0 ≤ i.toInt) (hp : 0 ≤ p.toInt) : i.toNatClampNeg = p.toNatClampNeg ↔ i = p := by
  have a := tn_of hi; have b := tn_of hp
  exact ⟨fun q => Int32.toInt_inj.mp (by omega), fun q => by rw [q]⟩
theorem own_ce {k p0 p1 p2 : Int32} {v0 v1 v2 : UInt64} (hk : k = 0 ∨ k = 1 ∨ k = 2 ∨ k = 3) (h0 : 0 ≤ p0.toInt) (h1 : p0.toInt < p1.toInt) (h2 : p1.toInt < p2.toInt) (i : Int32) (hi : 0 ≤ i.toInt) : own_c k p0 p1 p2 v0 v1 v2 i.toNatClampNeg = own_e i k p0 p1 p2 v0 v1 v2 := by
  have e0 := own_eqn hi h0; have e1 := own_eqn hi (show 0 ≤ p1.toInt by omega); have e2 := own_eqn hi (show 0 ≤ p2.toInt by omega)
  have n01 : p0 ≠ p1 := fun q => by rw [q] at h1; omega
  have n12 : p1 ≠ p2 := fun q => by rw [q] at h2; omega
  have n02 : p0 ≠ p2 := fun q => by rw [q] at h1; omega
  have z : (0 : UInt64) = FP.dconst0 := rfl
  unfold own_e
  rcases hk with rfl | rfl | rfl | rfl
  · show (0 : UInt64) = _
    rw [if_neg (fun q => q.1 (by decide)), if_neg (fun q => q.1 (by decide)), if_neg (fun q => q.1 (by decide))]; rfl
  · show (if i.toNatClampNeg = p0.toNatClampNeg then v0 else 0) = _
    rw [if_neg (fun q => q.1 (by decide)) (c := ¬ (1 : Int32) < 2 ∧ i = p1), if_neg (fun q => q.1 (by decide)) (c := ¬ (1 : Int32) < 3 ∧ i = p2)]
    by_cases q : i = p0
    · rw [if_pos (e0.mpr q), if_pos ⟨by decide, q⟩]
    · rw [if_neg (fun y => q (e0.mp y)), if_neg (fun y => q y.2)]; rfl
  · show (if i.toNatClampNeg = p1.toNatClampNeg then v1 else if i.toNatClampNeg = p0.toNatClampNeg then v0 else 0) = _
    rw [if_neg (fun q => q.1 (by decide)) (c := ¬ (2 : Int32) < 3 ∧ i = p2)]
    by_cases q : i = p0
    · rw [if_neg (fun y => n01 (q.symm.trans (e1.mp y))), if_pos (e0.mpr q), if_pos ⟨by decide, q⟩]
    · rw [if_neg (fun y => q (e0.mp y)) (c := i.toNatClampNeg = p0.toNatClampNeg), if_neg (fun y => q y.2) (c := ¬ (2 : Int32) < 1 ∧ i = p0)]
      by_cases q1 : i = p1
      · rw [if_pos (e1.mpr q1), if_pos ⟨by decide, q1⟩]
      · rw [if_neg (fun y => q1 (e1.mp y)), if_neg (fun y => q1 y.2)]; rfl
  · show (if i.toNatClampNeg = p2.toNatClampNeg then v2 else if i.toNatClampNeg = p1.toNatClampNeg then v1 else if i.toNatClampNeg = p0.toNatClampNeg then v0 else 0) = _
    by_cases q : i = p0
    · rw [if_neg (fun y => n02 (q.symm.trans (e2.mp y))), if_neg (fun y => n01 (q.symm.trans (e1.mp y))), if_pos (e0.mpr q), if_pos ⟨by decide, q⟩]
    · rw [if_neg (fun y => q (e0.mp y)) (c := i.toNatClampNeg = p0.toNatClampNeg), if_neg (fun y => q y.2) (c := ¬ (3 : Int32) < 1 ∧ i = p0)]
      by_cases q1 : i = p1
      · rw [if_neg (fun y => n12 (q1.symm.trans (e2.mp y))), if_pos (e1.mpr q1), if_pos ⟨by decide, q1⟩]
      · rw [if_neg (fun y => q1 (e1.mp y)) (c := i.toNatClampNeg = p1.toNatClampNeg), if_neg (fun y => q1 y.2) (c := ¬ (3 : Int32) < 2 ∧ i = p1)]
        by_cases q2 : i = p2
        · rw [if_pos (e2.mpr q2), if_pos ⟨by decide, q2⟩]
        · rw [if_neg (fun y => q2 (e2.mp y)), if_neg (fun y => q2 y.2)]; rfl
theorem own_en (i k p0 p1 p2 x0 x1 x2 : Int32) : NoNaN64 (own_e i k p0 p1 p2 (FP.i2d x0) (FP.i2d x1) (FP.i2d x2)) := by
  unfold own_e
  split
  · exact (i2d_fin x0).noNaN
  · split
    · exact (i2d_fin x1).noNaN
    · split
      · exact (i2d_fin x2).noNaN
      · exact dy_zero.noNaN







theorem d1_0 : decode prog_39_method_2_code 0 = .ok (.aload_n 0, 1) := by decide +kernel
theorem d1_1 : decode prog_39_method_2_code 1 = .ok (.iload_n 1, 1) := by decide +kernel
theorem d1_2 : decode prog_39_method_2_code 2 = .ok (.aload_n 2, 1) := by decide +kernel
theorem d1_3 : decode prog_39_method_2_code 3 = .ok (.invokevirtual 27, 3) := by decide +kernel
theorem d1_6 : decode prog_39_method_2_code 6 = .ok (.checkcast 28, 3) := by decide +kernel
theorem d1_9 : decode prog_39_method_2_code 9 = .ok (.aload_n 3, 1) := by decide +kernel
theorem d1_10 : decode prog_39_method_2_code 10 = .ok (.invokevirtual 32, 3) := by decide +kernel
theorem d1_13 : decode prog_39_method_2_code 13 = .ok (.checkcast 33, 3) := by decide +kernel
theorem d1_16 : decode prog_39_method_2_code 16 = .ok (.iconst 0, 1) := by decide +kernel
theorem d1_17 : decode prog_39_method_2_code 17 = .ok (.aload_n 2, 1) := by decide +kernel
theorem d1_18 : decode prog_39_method_2_code 18 = .ok (.arraylength, 1) := by decide +kernel
theorem d1_19 : decode prog_39_method_2_code 19 = .ok (.invokespecial 34, 3) := by decide +kernel
theorem d1_22 : decode prog_39_method_2_code 22 = .ok (.aload_n 3, 1) := by decide +kernel
theorem d1_23 : decode prog_39_method_2_code 23 = .ok (.arraylength, 1) := by decide +kernel
theorem d1_24 : decode prog_39_method_2_code 24 = .ok (.aload_n 2, 1) := by decide +kernel
theorem d1_25 : decode prog_39_method_2_code 25 = .ok (.arraylength, 1) := by decide +kernel
theorem d1_26 : decode prog_39_method_2_code 26 = .ok (.if_icmp .eq 20, 3) := by decide +kernel
theorem d1_46 : decode prog_39_method_2_code 46 = .ok (.iconst 0, 1) := by decide +kernel
theorem d1_47 : decode prog_39_method_2_code 47 = .ok (.istore 4, 2) := by decide +kernel
theorem d1_49 : decode prog_39_method_2_code 49 = .ok (.iload 4, 2) := by decide +kernel
theorem d1_51 : decode prog_39_method_2_code 51 = .ok (.aload_n 2, 1) := by decide +kernel
theorem d1_52 : decode prog_39_method_2_code 52 = .ok (.arraylength, 1) := by decide +kernel
theorem d1_53 : decode prog_39_method_2_code 53 = .ok (.if_icmp .ge 60, 3) := by decide +kernel
theorem d1_56 : decode prog_39_method_2_code 56 = .ok (.aload_n 2, 1) := by decide +kernel
theorem d1_57 : decode prog_39_method_2_code 57 = .ok (.iload 4, 2) := by decide +kernel
theorem d1_59 : decode prog_39_method_2_code 59 = .ok (.iaload, 1) := by decide +kernel
theorem d1_60 : decode prog_39_method_2_code 60 = .ok (.ifCond .lt 29, 3) := by decide +kernel
theorem d1_63 : decode prog_39_method_2_code 63 = .ok (.aload_n 2, 1) := by decide +kernel
theorem d1_64 : decode prog_39_method_2_code 64 = .ok (.iload 4, 2) := by decide +kernel
theorem d1_66 : decode prog_39_method_2_code 66 = .ok (.iaload, 1) := by decide +kernel
theorem d1_67 : decode prog_39_method_2_code 67 = .ok (.iload_n 1, 1) := by decide +kernel
theorem d1_68 : decode prog_39_method_2_code 68 = .ok (.if_icmp .ge 21, 3) := by decide +kernel
theorem d1_71 : decode prog_39_method_2_code 71 = .ok (.iload 4, 2) := by decide +kernel
theorem d1_73 : decode prog_39_method_2_code 73 = .ok (.ifCond .le 34, 3) := by decide +kernel
theorem d1_76 : decode prog_39_method_2_code 76 = .ok (.aload_n 2, 1) := by decide +kernel
theorem d1_77 : decode prog_39_method_2_code 77 = .ok (.iload 4, 2) := by decide +kernel
theorem d1_79 : decode prog_39_method_2_code 79 = .ok (.iaload, 1) := by decide +kernel
theorem d1_80 : decode prog_39_method_2_code 80 = .ok (.aload_n 2, 1) := by decide +kernel
theorem d1_81 : decode prog_39_method_2_code 81 = .ok (.iload 4, 2) := by decide +kernel
theorem d1_83 : decode prog_39_method_2_code 83 = .ok (.iconst 1, 1) := by decide +kernel
theorem d1_84 : decode prog_39_method_2_code 84 = .ok (.isub, 1) := by decide +kernel
theorem d1_85 : decode prog_39_method_2_code 85 = .ok (.iaload, 1) := by decide +kernel
theorem d1_86 : decode prog_39_method_2_code 86 = .ok (.if_icmp .gt 21, 3) := by decide +kernel
theorem d1_107 : decode prog_39_method_2_code 107 = .ok (.iinc 4 1, 3) := by decide +kernel
theorem d1_110 : decode prog_39_method_2_code 110 = .ok (.goto (-61), 3) := by decide +kernel
theorem d1_113 : decode prog_39_method_2_code 113 = .ok (.return_, 1) := by decide +kernel
theorem d2_0 : decode prog_39_method_1_code 0 = .ok (.aload_n 0, 1) := by decide +kernel
theorem d2_1 : decode prog_39_method_1_code 1 = .ok (.invokespecial 1, 3) := by decide +kernel
theorem d2_4 : decode prog_39_method_1_code 4 = .ok (.aload_n 0, 1) := by decide +kernel
theorem d2_5 : decode prog_39_method_1_code 5 = .ok (.iload_n 1, 1) := by decide +kernel
theorem d2_6 : decode prog_39_method_1_code 6 = .ok (.putfield 7, 3) := by decide +kernel
theorem d2_9 : decode prog_39_method_1_code 9 = .ok (.aload_n 0, 1) := by decide +kernel
theorem d2_10 : decode prog_39_method_1_code 10 = .ok (.aload_n 2, 1) := by decide +kernel
theorem d2_11 : decode prog_39_method_1_code 11 = .ok (.putfield 13, 3) := by decide +kernel
theorem d2_14 : decode prog_39_method_1_code 14 = .ok (.aload_n 0, 1) := by decide +kernel
theorem d2_15 : decode prog_39_method_1_code 15 = .ok (.aload_n 3, 1) := by decide +kernel
theorem d2_16 : decode prog_39_method_1_code 16 = .ok (.putfield 17, 3) := by decide +kernel
theorem d2_19 : decode prog_39_method_1_code 19 = .ok (.aload_n 0, 1) := by decide +kernel
theorem d2_20 : decode prog_39_method_1_code 20 = .ok (.iload 4, 2) := by decide +kernel
theorem d2_22 : decode prog_39_method_1_code 22 = .ok (.putfield 21, 3) := by decide +kernel
theorem d2_25 : decode prog_39_method_1_code 25 = .ok (.aload_n 0, 1) := by decide +kernel
theorem d2_26 : decode prog_39_method_1_code 26 = .ok (.iload 5, 2) := by decide +kernel
theorem d2_28 : decode prog_39_method_1_code 28 = .ok (.putfield 24, 3) := by decide +kernel
theorem d2_31 : decode prog_39_method_1_code 31 = .ok (.return_, 1) := by decide +kernel
theorem d4_0 : decode prog_39_method_10_code 0 = .ok (.aload_n 0, 1) := by decide +kernel
theorem d4_1 : decode prog_39_method_10_code 1 = .ok (.getfield 7, 3) := by decide +kernel
theorem d4_4 : decode prog_39_method_10_code 4 = .ok (.newarray .double, 2) := by decide +kernel
theorem d4_6 : decode prog_39_method_10_code 6 = .ok (.astore_n 1, 1) := by decide +kernel
theorem d4_7 : decode prog_39_method_10_code 7 = .ok (.aload_n 0, 1) := by decide +kernel
theorem d4_8 : decode prog_39_method_10_code 8 = .ok (.getfield 21, 3) := by decide +kernel
theorem d4_11 : decode prog_39_method_10_code 11 = .ok (.istore_n 2, 1) := by decide +kernel
theorem d4_12 : decode prog_39_method_10_code 12 = .ok (.iload_n 2, 1) := by decide +kernel
theorem d4_13 : decode prog_39_method_10_code 13 = .ok (.aload_n 0, 1) := by decide +kernel
theorem d4_14 : decode prog_39_method_10_code 14 = .ok (.getfield 24, 3) := by decide +kernel
theorem d4_17 : decode prog_39_method_10_code 17 = .ok (.if_icmp .ge 23, 3) := by decide +kernel
theorem d4_20 : decode prog_39_method_10_code 20 = .ok (.aload_n 1, 1) := by decide +kernel
theorem d4_21 : decode prog_39_method_10_code 21 = .ok (.aload_n 0, 1) := by decide +kernel
theorem d4_22 : decode prog_39_method_10_code 22 = .ok (.getfield 13, 3) := by decide +kernel
theorem d4_25 : decode prog_39_method_10_code 25 = .ok (.iload_n 2, 1) := by decide +kernel
theorem d4_26 : decode prog_39_method_10_code 26 = .ok (.iaload, 1) := by decide +kernel
theorem d4_27 : decode prog_39_method_10_code 27 = .ok (.aload_n 0, 1) := by decide +kernel
theorem d4_28 : decode prog_39_method_10_code 28 = .ok (.getfield 17, 3) := by decide +kernel
theorem d4_31 : decode prog_39_method_10_code 31 = .ok (.iload_n 2, 1) := by decide +kernel
theorem d4_32 : decode prog_39_method_10_code 32 = .ok (.daload, 1) := by decide +kernel
theorem d4_33 : decode prog_39_method_10_code 33 = .ok (.dastore, 1) := by decide +kernel
theorem d4_34 : decode prog_39_method_10_code 34 = .ok (.iinc 2 1, 3) := by decide +kernel
theorem d4_37 : decode prog_39_method_10_code 37 = .ok (.goto (-25), 3) := by decide +kernel
theorem d4_40 : decode prog_39_method_10_code 40 = .ok (.aload_n 1, 1) := by decide +kernel
theorem d4_41 : decode prog_39_method_10_code 41 = .ok (.areturn, 1) := by decide +kernel
theorem d5_0 : decode method_4_code 0 = .ok (.iload_n 1, 1) := by decide +kernel
theorem d5_1 : decode method_4_code 1 = .ok (.aload_n 0, 1) := by decide +kernel
theorem d5_2 : decode method_4_code 2 = .ok (.arraylength, 1) := by decide +kernel
theorem d5_3 : decode method_4_code 3 = .ok (.if_icmp .ge 26, 3) := by decide +kernel
theorem d5_6 : decode method_4_code 6 = .ok (.aload_n 0, 1) := by decide +kernel
theorem d5_7 : decode method_4_code 7 = .ok (.iload_n 1, 1) := by decide +kernel
theorem d5_8 : decode method_4_code 8 = .ok (.daload, 1) := by decide +kernel
theorem d5_9 : decode method_4_code 9 = .ok (.iload_n 1, 1) := by decide +kernel
theorem d5_10 : decode method_4_code 10 = .ok (.iload_n 2, 1) := by decide +kernel
theorem d5_11 : decode method_4_code 11 = .ok (.iload_n 3, 1) := by decide +kernel
theorem d5_12 : decode method_4_code 12 = .ok (.iload 4, 2) := by decide +kernel
theorem d5_14 : decode method_4_code 14 = .ok (.iload 5, 2) := by decide +kernel
theorem d5_16 : decode method_4_code 16 = .ok (.dload 6, 2) := by decide +kernel
theorem d5_18 : decode method_4_code 18 = .ok (.dload 8, 2) := by decide +kernel
theorem d5_20 : decode method_4_code 20 = .ok (.dload 10, 2) := by decide +kernel
theorem d5_22 : decode method_4_code 22 = .ok (.invokestatic 26, 3) := by decide +kernel
theorem d5_25 : decode method_4_code 25 = .ok (.dcmp .l, 1) := by decide +kernel
theorem d5_26 : decode method_4_code 26 = .ok (.ifCond .ne 7, 3) := by decide +kernel
theorem d5_29 : decode method_4_code 29 = .ok (.iconst 1, 1) := by decide +kernel
theorem d5_30 : decode method_4_code 30 = .ok (.goto 4, 3) := by decide +kernel
theorem d5_34 : decode method_4_code 34 = .ok (.ireturn, 1) := by decide +kernel
theorem d6_0 : decode method_3_code 0 = .ok (.iload_n 1, 1) := by decide +kernel
theorem d6_1 : decode method_3_code 1 = .ok (.iconst 1, 1) := by decide +kernel
theorem d6_2 : decode method_3_code 2 = .ok (.if_icmp .lt 11, 3) := by decide +kernel
theorem d6_5 : decode method_3_code 5 = .ok (.iload_n 0, 1) := by decide +kernel
theorem d6_6 : decode method_3_code 6 = .ok (.iload_n 2, 1) := by decide +kernel
theorem d6_7 : decode method_3_code 7 = .ok (.if_icmp .ne 6, 3) := by decide +kernel
theorem d6_10 : decode method_3_code 10 = .ok (.dload 5, 2) := by decide +kernel
theorem d6_12 : decode method_3_code 12 = .ok (.dreturn, 1) := by decide +kernel
theorem d6_13 : decode method_3_code 13 = .ok (.iload_n 1, 1) := by decide +kernel
theorem d6_14 : decode method_3_code 14 = .ok (.iconst 2, 1) := by decide +kernel
theorem d6_15 : decode method_3_code 15 = .ok (.if_icmp .lt 11, 3) := by decide +kernel
theorem d6_18 : decode method_3_code 18 = .ok (.iload_n 0, 1) := by decide +kernel
theorem d6_19 : decode method_3_code 19 = .ok (.iload_n 3, 1) := by decide +kernel
theorem d6_20 : decode method_3_code 20 = .ok (.if_icmp .ne 6, 3) := by decide +kernel
theorem d6_23 : decode method_3_code 23 = .ok (.dload 7, 2) := by decide +kernel
theorem d6_25 : decode method_3_code 25 = .ok (.dreturn, 1) := by decide +kernel
theorem d6_26 : decode method_3_code 26 = .ok (.iload_n 1, 1) := by decide +kernel
theorem d6_27 : decode method_3_code 27 = .ok (.iconst 3, 1) := by decide +kernel
theorem d6_28 : decode method_3_code 28 = .ok (.if_icmp .lt 12, 3) := by decide +kernel
theorem d6_31 : decode method_3_code 31 = .ok (.iload_n 0, 1) := by decide +kernel
theorem d6_32 : decode method_3_code 32 = .ok (.iload 4, 2) := by decide +kernel
theorem d6_34 : decode method_3_code 34 = .ok (.if_icmp .ne 6, 3) := by decide +kernel
theorem d6_37 : decode method_3_code 37 = .ok (.dload 9, 2) := by decide +kernel
theorem d6_39 : decode method_3_code 39 = .ok (.dreturn, 1) := by decide +kernel
theorem d6_40 : decode method_3_code 40 = .ok (.dconst 0, 1) := by decide +kernel
theorem d6_41 : decode method_3_code 41 = .ok (.dreturn, 1) := by decide +kernel
theorem d7_0 : decode prog_39_method_4_code 0 = .ok (.new 8, 3) := by decide +kernel
theorem d7_3 : decode prog_39_method_4_code 3 = .ok (.dup, 1) := by decide +kernel
theorem d7_4 : decode prog_39_method_4_code 4 = .ok (.iload_n 0, 1) := by decide +kernel
theorem d7_5 : decode prog_39_method_4_code 5 = .ok (.aload_n 1, 1) := by decide +kernel
theorem d7_6 : decode prog_39_method_4_code 6 = .ok (.aload_n 2, 1) := by decide +kernel
theorem d7_7 : decode prog_39_method_4_code 7 = .ok (.iload_n 3, 1) := by decide +kernel
theorem d7_8 : decode prog_39_method_4_code 8 = .ok (.iload 4, 2) := by decide +kernel
theorem d7_10 : decode prog_39_method_4_code 10 = .ok (.invokespecial 34, 3) := by decide +kernel
theorem d7_13 : decode prog_39_method_4_code 13 = .ok (.areturn, 1) := by decide +kernel
theorem pd_0 : parseMethodDescriptor "(I[I[DII)V" = some ⟨[.int, (.array .int), (.array .double), .int, .int], none⟩ := by decide +kernel
theorem pd_1 : parseMethodDescriptor "(IIIIIDDD)D" = some ⟨[.int, .int, .int, .int, .int, .double, .double, .double], some .double⟩ := by decide +kernel
theorem pd_2 : parseMethodDescriptor "(I[I[D)V" = some ⟨[.int, (.array .int), (.array .double)], none⟩ := by decide +kernel
theorem pd_3 : parseMethodDescriptor "()[D" = some ⟨[], some (.array .double)⟩ := by decide +kernel
theorem pd_4 : parseMethodDescriptor "(I[I[DII)Lcom/example/polytome/polytome/model/SparseVector;" = some ⟨[.int, (.array .int), (.array .double), .int, .int], some (.object "com/example/polytome/polytome/model/SparseVector")⟩ := by decide +kernel
theorem pd_5 : parseMethodDescriptor "([DIIIIIDDD)Z" = some ⟨[(.array .double), .int, .int, .int, .int, .int, .double, .double, .double], some .boolean⟩ := by decide +kernel
theorem pn_2 : plainName "com/example/polytome/polytome/model/SparseVector" = true := by first | (simp [plainName, overriddenIn]; done) | decide +kernel
theorem ef_2 (m : MethodId) (x0 : Addr) (x1 : Int32) (x2 : Addr) (x3 : Addr) (x4 : Int32) (x5 : Int32) : entryFrame m #[(.ref x0), (.int x1), (.ref x2), (.ref x3), (.int x4), (.int x5)] 6 = mkF m 0 #[.val (.ref x0), .val (.int x1), .val (.ref x2), .val (.ref x3), .val (.int x4), .val (.int x5)] [] := by first | (simp [entryFrame, mkF, argsToLocals, Value.category]; done) | rfl
def Qm5 (Z : State) (po : Addr) (d : Int32) (ps : Addr) (vs : Addr) (fr : Int32) (to : Int32)  (h0 : Heap) (n0 : Nat) (v : Option Value) (h : Heap) (L : List Loc) : Prop := v = none ∧ Fr n0 L ∧ Keep h0 h [po] ∧ SVf Z h po d ps vs fr to
set_option maxRecDepth 65536 in
set_option maxHeartbeats 40000000 in
theorem rm5 (l : Launch) (Z : State) (a0 : Array Value) (hw : ∀ d ∈ tables_1, d.before a0 Z = true) (ws : List Jvm.Cond) (po : Addr) (d : Int32) (ps : Addr) (vs : Addr) (fr : Int32) (to : Int32)  (h0 : Heap) (n0 : Nat) (Z0 : n0 ≤ h0.size) (Epo : Exa Z h0 po "com/example/polytome/polytome/model/SparseVector") (g_po : n0 ≤ po) (F_dimension : Fld Z h0 po "com/example/polytome/polytome/model/SparseVector" "dimension" "I" (.int (0 : Int32))) (F_positions : Fld Z h0 po "com/example/polytome/polytome/model/SparseVector" "positions" "[I" .null) (F_values : Fld Z h0 po "com/example/polytome/polytome/model/SparseVector" "values" "[D" .null) (F_from : Fld Z h0 po "com/example/polytome/polytome/model/SparseVector" "from" "I" (.int (0 : Int32))) (F_to : Fld Z h0 po "com/example/polytome/polytome/model/SparseVector" "to" "I" (.int (0 : Int32))) :
    MetFree l (⟨"com/example/polytome/polytome/model/SparseVector", "<init>", "(I[I[DII)V"⟩ : MethodName) (head1 (Jvm.Cond.code (⟨"com/example/polytome/polytome/model/SparseVector", "<init>", "(I[I[DII)V"⟩ : MethodName) prog_39_method_1_code 6 none :: ws) ({ frames := 1, cells := 0, slots := 0, locals := 12 } : Room)) (fun a U => a = #[(.ref po), (.int d), (.ref ps), (.ref vs), (.int fr), (.int to)] ∧ Z.Warmed39 U.vm ∧ U.heap = h0) (fun _ _ _ _ _ => True) (fun _ U o U' => ∃ v L, o = .returned v ∧ Qm5 Z po d ps vs fr to h0 n0 v U'.heap L ∧ FrameEnd U o U' L ({ frames := 1, cells := 0, slots := 0, locals := 12 } : Room).cells ({ frames := 1, cells := 0, slots := 0, locals := 12 } : Room).slots) := by
  refine MetFree.of_bodySF (plainFor_of_name pn_2) hisR ?_
  intro p e s m args below meth c s₁ Bd hml0 hP hK
  obtain ⟨rfl, hZ, hh⟩ := hP
  have hx := Bd.exec
  have hby := Bd.bytes
  have hml : c.maxLocals = 6 := hml0
  have hown : s.vm.findClass "com/example/polytome/polytome/model/SparseVector" = some m.cls := findClass_of_methodNamed Bd.named
  have hnm := (name_of_methodNamed Bd.named Bd.method).1
  have X0 : Stand p l e ({ frames := 1, cells := 0, slots := 0, locals := 12 } : Room) s m #[(.ref po), (.int d), (.ref ps), (.ref vs), (.int fr), (.int to)] below meth c s₁ [] 0 0 := Stand.of_body Bd
  have e0 : s₁.heap = h0 := by rw [← hh, Bd.state]; rfl
  have N0 := Fr.nil n0
  have pre0 : ∀ t, Steps p.tables e below (s₁.setTop (mkF m 0 #[.val (.ref po), .val (.int d), .val (.ref ps), .val (.ref vs), .val (.int fr), .val (.int to)] [])) t → Steps p.tables e below (s₁.setTop (entryFrame m #[(.ref po), (.int d), (.ref ps), (.ref vs), (.int fr), (.int to)] 6)) t := fun t_ k_ => castTop (ef_2 m po d ps vs fr to) k_
  obtain ⟨S0, hS0⟩ : ∃ z, z = s₁.setTop (mkF m 0 #[.val (.ref po), .val (.int d), .val (.ref ps), .val (.ref vs), .val (.int fr), .val (.int to)] []) := ⟨_, rfl⟩
  have r0 : Steps p.tables e below S0 (s₁.setTop (mkF m 0 #[.val (.ref po), .val (.int d), .val (.ref ps), .val (.ref vs), .val (.int fr), .val (.int to)] [])) := by rw [hS0]; exact Steps.refl _
  have K0 := Keep.refl h0 [po]
  have r1 : Steps p.tables e below S0 (s₁.setTop (mkF m 1 #[.val (.ref po), .val (.int d), .val (.ref ps), .val (.ref vs), .val (.int fr), .val (.int to)] [(.ref po)])) := by
    refine r0.trans ?_
    show Steps p.tables e below (s₁.setTop (mkF m 0 #[.val (.ref po), .val (.int d), .val (.ref ps), .val (.ref vs), .val (.int fr), .val (.int to)] [])) _
    refine XS.aloadN X0.here hx rfl (hb hby d2_0) rfl rfl ?_
    exact Steps.refl _
  obtain ⟨T2, X2, e2, st2⟩ := initO X0 hx hZ hown (hw _ (List.mem_of_getElem? (i := 26) rfl)) (hw _ (List.mem_of_getElem? (i := 27) rfl)) (hw _ (List.mem_of_getElem? (i := 28) rfl)) e0 (g := (mkF m 1 #[.val (.ref po), .val (.int d), .val (.ref ps), .val (.ref vs), .val (.int fr), .val (.int to)] [(.ref po)])) rfl (by rw [hml]; rfl) rfl (hb hby d2_1) (by decide) (W := 0) (by show 2 * 0 + _ ≤ _; exact Nat.le_of_eq rfl) (by decide)
  have r3 : Steps p.tables e below S0 (T2.setTop (mkF m 4 #[.val (.ref po), .val (.int d), .val (.ref ps), .val (.ref vs), .val (.int fr), .val (.int to)] [])) := r1.trans (st2 _ (Steps.refl _))
  have r4 : Steps p.tables e below S0 (T2.setTop (mkF m 6 #[.val (.ref po), .val (.int d), .val (.ref ps), .val (.ref vs), .val (.int fr), .val (.int to)] [(.int d), (.ref po)])) := by
    refine r3.trans ?_
    show Steps p.tables e below (T2.setTop (mkF m 4 #[.val (.ref po), .val (.int d), .val (.ref ps), .val (.ref vs), .val (.int fr), .val (.int to)] [])) _
    refine XS.aloadN X2.here hx rfl (hb hby d2_4) rfl rfl ?_
    show Steps p.tables e below (T2.setTop (mkF m 5 #[.val (.ref po), .val (.int d), .val (.ref ps), .val (.ref vs), .val (.int fr), .val (.int to)] [(.ref po)])) _
    refine XS.iloadN X2.here hx rfl (hb hby d2_5) rfl ?_
    exact Steps.refl _
  obtain ⟨T5, h5, X5, e5, W5, st5⟩ := putF X2 hx hZ hown (host := "") (Or.inl (hw _ (List.mem_of_getElem? (i := 29) rfl))) Via.refl e2 F_dimension Epo (Or.inr ⟨(hw _ (List.mem_of_getElem? (i := 30) rfl)), rfl, hnm⟩) (hw _ (List.mem_of_getElem? (i := 1) rfl)) (ty := .int) (by decide) rfl rfl (g := (mkF m 6 #[.val (.ref po), .val (.int d), .val (.ref ps), .val (.ref vs), .val (.int fr), .val (.int to)] [(.int d), (.ref po)])) rfl rfl (hb hby d2_6)
  have N5 := Fr.snoc X5 N0 g_po
  have F5_po_dimension := F_dimension.same W5
  have F5_po_positions := F_positions.other W5 (Or.inr (slot_ne (a0 := a0) (Or.inr (hw _ (List.mem_of_getElem? (i := 32) rfl))) (Or.inr (hw _ (List.mem_of_getElem? (i := 30) rfl))) (by decide) (t := (.array .int)) (t' := .int) (by decide) (by decide)))
  have F5_po_values := F_values.other W5 (Or.inr (slot_ne (a0 := a0) (Or.inr (hw _ (List.mem_of_getElem? (i := 34) rfl))) (Or.inr (hw _ (List.mem_of_getElem? (i := 30) rfl))) (by decide) (t := (.array .double)) (t' := .int) (by decide) (by decide)))
  have F5_po_from := F_from.other W5 (Or.inr (slot_ne (a0 := a0) (Or.inr (hw _ (List.mem_of_getElem? (i := 36) rfl))) (Or.inr (hw _ (List.mem_of_getElem? (i := 30) rfl))) (by decide) (t := .int) (t' := .int) (by decide) (by decide)))
  have F5_po_to := F_to.other W5 (Or.inr (slot_ne (a0 := a0) (Or.inr (hw _ (List.mem_of_getElem? (i := 38) rfl))) (Or.inr (hw _ (List.mem_of_getElem? (i := 30) rfl))) (by decide) (t := .int) (t' := .int) (by decide) (by decide)))
  have E5_po := Epo.wr W5
  have Z5 : n0 ≤ h5.size := Nat.le_trans Z0 (Nat.le_of_eq W5.size.symm)
  have K5 := K0.wr W5 (Or.inl (List.mem_of_getElem? (i := 0) rfl))
  have r6 : Steps p.tables e below S0 (T5.setTop (mkF m 9 #[.val (.ref po), .val (.int d), .val (.ref ps), .val (.ref vs), .val (.int fr), .val (.int to)] [])) := r4.trans (st5 _ (Steps.refl _))
  have r7 : Steps p.tables e below S0 (T5.setTop (mkF m 11 #[.val (.ref po), .val (.int d), .val (.ref ps), .val (.ref vs), .val (.int fr), .val (.int to)] [(.ref ps), (.ref po)])) := by
    refine r6.trans ?_
    show Steps p.tables e below (T5.setTop (mkF m 9 #[.val (.ref po), .val (.int d), .val (.ref ps), .val (.ref vs), .val (.int fr), .val (.int to)] [])) _
    refine XS.aloadN X5.here hx rfl (hb hby d2_9) rfl rfl ?_
    show Steps p.tables e below (T5.setTop (mkF m 10 #[.val (.ref po), .val (.int d), .val (.ref ps), .val (.ref vs), .val (.int fr), .val (.int to)] [(.ref po)])) _
    refine XS.aloadN X5.here hx rfl (hb hby d2_10) rfl rfl ?_
    exact Steps.refl _
  obtain ⟨T8, h8, X8, e8, W8, st8⟩ := putF X5 hx hZ hown (host := "") (Or.inl (hw _ (List.mem_of_getElem? (i := 31) rfl))) Via.refl e5 F5_po_positions E5_po (Or.inr ⟨(hw _ (List.mem_of_getElem? (i := 32) rfl)), rfl, hnm⟩) (hw _ (List.mem_of_getElem? (i := 1) rfl)) (ty := (.array .int)) (by decide) rfl rfl (g := (mkF m 11 #[.val (.ref po), .val (.int d), .val (.ref ps), .val (.ref vs), .val (.int fr), .val (.int to)] [(.ref ps), (.ref po)])) rfl rfl (hb hby d2_11)
  have N8 := Fr.snoc X8 N5 g_po
  have F8_po_dimension := F5_po_dimension.other W8 (Or.inr (slot_ne (a0 := a0) (Or.inr (hw _ (List.mem_of_getElem? (i := 30) rfl))) (Or.inr (hw _ (List.mem_of_getElem? (i := 32) rfl))) (by decide) (t := .int) (t' := (.array .int)) (by decide) (by decide)))
  have F8_po_positions := F5_po_positions.same W8
  have F8_po_values := F5_po_values.other W8 (Or.inr (slot_ne (a0 := a0) (Or.inr (hw _ (List.mem_of_getElem? (i := 34) rfl))) (Or.inr (hw _ (List.mem_of_getElem? (i := 32) rfl))) (by decide) (t := (.array .double)) (t' := (.array .int)) (by decide) (by decide)))
  have F8_po_from := F5_po_from.other W8 (Or.inr (slot_ne (a0 := a0) (Or.inr (hw _ (List.mem_of_getElem? (i := 36) rfl))) (Or.inr (hw _ (List.mem_of_getElem? (i := 32) rfl))) (by decide) (t := .int) (t' := (.array .int)) (by decide) (by decide)))
  have F8_po_to := F5_po_to.other W8 (Or.inr (slot_ne (a0 := a0) (Or.inr (hw _ (List.mem_of_getElem? (i := 38) rfl))) (Or.inr (hw _ (List.mem_of_getElem? (i := 32) rfl))) (by decide) (t := .int) (t' := (.array .int)) (by decide) (by decide)))
  have E8_po := E5_po.wr W8
  have Z8 : n0 ≤ h8.size := Nat.le_trans Z5 (Nat.le_of_eq W8.size.symm)
  have K8 := K5.wr W8 (Or.inl (List.mem_of_getElem? (i := 0) rfl))
  have r9 : Steps p.tables e below S0 (T8.setTop (mkF m 14 #[.val (.ref po), .val (.int d), .val (.ref ps), .val (.ref vs), .val (.int fr), .val (.int to)] [])) := r7.trans (st8 _ (Steps.refl _))
  have r10 : Steps p.tables e below S0 (T8.setTop (mkF m 16 #[.val (.ref po), .val (.int d), .val (.ref ps), .val (.ref vs), .val (.int fr), .val (.int to)] [(.ref vs), (.ref po)])) := by
    refine r9.trans ?_
    show Steps p.tables e below (T8.setTop (mkF m 14 #[.val (.ref po), .val (.int d), .val (.ref ps), .val (.ref vs), .val (.int fr), .val (.int to)] [])) _
    refine XS.aloadN X8.here hx rfl (hb hby d2_14) rfl rfl ?_
    show Steps p.tables e below (T8.setTop (mkF m 15 #[.val (.ref po), .val (.int d), .val (.ref ps), .val (.ref vs), .val (.int fr), .val (.int to)] [(.ref po)])) _
    refine XS.aloadN X8.here hx rfl (hb hby d2_15) rfl rfl ?_
    exact Steps.refl _
  obtain ⟨T11, h11, X11, e11, W11, st11⟩ := putF X8 hx hZ hown (host := "") (Or.inl (hw _ (List.mem_of_getElem? (i := 33) rfl))) Via.refl e8 F8_po_values E8_po (Or.inr ⟨(hw _ (List.mem_of_getElem? (i := 34) rfl)), rfl, hnm⟩) (hw _ (List.mem_of_getElem? (i := 1) rfl)) (ty := (.array .double)) (by decide) rfl rfl (g := (mkF m 16 #[.val (.ref po), .val (.int d), .val (.ref ps), .val (.ref vs), .val (.int fr), .val (.int to)] [(.ref vs), (.ref po)])) rfl rfl (hb hby d2_16)
  have N11 := Fr.snoc X11 N8 g_po
  have F11_po_dimension := F8_po_dimension.other W11 (Or.inr (slot_ne (a0 := a0) (Or.inr (hw _ (List.mem_of_getElem? (i := 30) rfl))) (Or.inr (hw _ (List.mem_of_getElem? (i := 34) rfl))) (by decide) (t := .int) (t' := (.array .double)) (by decide) (by decide)))
  have F11_po_positions := F8_po_positions.other W11 (Or.inr (slot_ne (a0 := a0) (Or.inr (hw _ (List.mem_of_getElem? (i := 32) rfl))) (Or.inr (hw _ (List.mem_of_getElem? (i := 34) rfl))) (by decide) (t := (.array .int)) (t' := (.array .double)) (by decide) (by decide)))
  have F11_po_values := F8_po_values.same W11
  have F11_po_from := F8_po_from.other W11 (Or.inr (slot_ne (a0 := a0) (Or.inr (hw _ (List.mem_of_getElem? (i := 36) rfl))) (Or.inr (hw _ (List.mem_of_getElem? (i := 34) rfl))) (by decide) (t := .int) (t' := (.array .double)) (by decide) (by decide)))
  have F11_po_to := F8_po_to.other W11 (Or.inr (slot_ne (a0 := a0) (Or.inr (hw _ (List.mem_of_getElem? (i := 38) rfl))) (Or.inr (hw _ (List.mem_of_getElem? (i := 34) rfl))) (by decide) (t := .int) (t' := (.array .double)) (by decide) (by decide)))
  have E11_po := E8_po.wr W11
  have Z11 : n0 ≤ h11.size := Nat.le_trans Z8 (Nat.le_of_eq W11.size.symm)
  have K11 := K8.wr W11 (Or.inl (List.mem_of_getElem? (i := 0) rfl))
  have r12 : Steps p.tables e below S0 (T11.setTop (mkF m 19 #[.val (.ref po), .val (.int d), .val (.ref ps), .val (.ref vs), .val (.int fr), .val (.int to)] [])) := r10.trans (st11 _ (Steps.refl _))
  have r13 : Steps p.tables e below S0 (T11.setTop (mkF m 22 #[.val (.ref po), .val (.int d), .val (.ref ps), .val (.ref vs), .val (.int fr), .val (.int to)] [(.int fr), (.ref po)])) := by
    refine r12.trans ?_
    show Steps p.tables e below (T11.setTop (mkF m 19 #[.val (.ref po), .val (.int d), .val (.ref ps), .val (.ref vs), .val (.int fr), .val (.int to)] [])) _
    refine XS.aloadN X11.here hx rfl (hb hby d2_19) rfl rfl ?_
    show Steps p.tables e below (T11.setTop (mkF m 20 #[.val (.ref po), .val (.int d), .val (.ref ps), .val (.ref vs), .val (.int fr), .val (.int to)] [(.ref po)])) _
    refine XS.iload X11.here hx rfl (hb hby d2_20) rfl ?_
    exact Steps.refl _
  obtain ⟨T14, h14, X14, e14, W14, st14⟩ := putF X11 hx hZ hown (host := "") (Or.inl (hw _ (List.mem_of_getElem? (i := 35) rfl))) Via.refl e11 F11_po_from E11_po (Or.inr ⟨(hw _ (List.mem_of_getElem? (i := 36) rfl)), rfl, hnm⟩) (hw _ (List.mem_of_getElem? (i := 1) rfl)) (ty := .int) (by decide) rfl rfl (g := (mkF m 22 #[.val (.ref po), .val (.int d), .val (.ref ps), .val (.ref vs), .val (.int fr), .val (.int to)] [(.int fr), (.ref po)])) rfl rfl (hb hby d2_22)
  have N14 := Fr.snoc X14 N11 g_po
  have F14_po_dimension := F11_po_dimension.other W14 (Or.inr (slot_ne (a0 := a0) (Or.inr (hw _ (List.mem_of_getElem? (i := 30) rfl))) (Or.inr (hw _ (List.mem_of_getElem? (i := 36) rfl))) (by decide) (t := .int) (t' := .int) (by decide) (by decide)))
  have F14_po_positions := F11_po_positions.other W14 (Or.inr (slot_ne (a0 := a0) (Or.inr (hw _ (List.mem_of_getElem? (i := 32) rfl))) (Or.inr (hw _ (List.mem_of_getElem? (i := 36) rfl))) (by decide) (t := (.array .int)) (t' := .int) (by decide) (by decide)))
  have F14_po_values := F11_po_values.other W14 (Or.inr (slot_ne (a0 := a0) (Or.inr (hw _ (List.mem_of_getElem? (i := 34) rfl))) (Or.inr (hw _ (List.mem_of_getElem? (i := 36) rfl))) (by decide) (t := (.array .double)) (t' := .int) (by decide) (by decide)))
  have F14_po_from := F11_po_from.same W14
  have F14_po_to := F11_po_to.other W14 (Or.inr (slot_ne (a0 := a0) (Or.inr (hw _ (List.mem_of_getElem? (i := 38) rfl))) (Or.inr (hw _ (List.mem_of_getElem? (i := 36) rfl))) (by decide) (t := .int) (t' := .int) (by decide) (by decide)))
  have E14_po := E11_po.wr W14
  have Z14 : n0 ≤ h14.size := Nat.le_trans Z11 (Nat.le_of_eq W14.size.symm)
  have K14 := K11.wr W14 (Or.inl (List.mem_of_getElem? (i := 0) rfl))
  have r15 : Steps p.tables e below S0 (T14.setTop (mkF m 25 #[.val (.ref po), .val (.int d), .val (.ref ps), .val (.ref vs), .val (.int fr), .val (.int to)] [])) := r13.trans (st14 _ (Steps.refl _))
  have r16 : Steps p.tables e below S0 (T14.setTop (mkF m 28 #[.val (.ref po), .val (.int d), .val (.ref ps), .val (.ref vs), .val (.int fr), .val (.int to)] [(.int to), (.ref po)])) := by
    refine r15.trans ?_
    show Steps p.tables e below (T14.setTop (mkF m 25 #[.val (.ref po), .val (.int d), .val (.ref ps), .val (.ref vs), .val (.int fr), .val (.int to)] [])) _
    refine XS.aloadN X14.here hx rfl (hb hby d2_25) rfl rfl ?_
    show Steps p.tables e below (T14.setTop (mkF m 26 #[.val (.ref po), .val (.int d), .val (.ref ps), .val (.ref vs), .val (.int fr), .val (.int to)] [(.ref po)])) _
    refine XS.iload X14.here hx rfl (hb hby d2_26) rfl ?_
    exact Steps.refl _
  obtain ⟨T17, h17, X17, e17, W17, st17⟩ := putF X14 hx hZ hown (host := "") (Or.inl (hw _ (List.mem_of_getElem? (i := 37) rfl))) Via.refl e14 F14_po_to E14_po (Or.inr ⟨(hw _ (List.mem_of_getElem? (i := 38) rfl)), rfl, hnm⟩) (hw _ (List.mem_of_getElem? (i := 1) rfl)) (ty := .int) (by decide) rfl rfl (g := (mkF m 28 #[.val (.ref po), .val (.int d), .val (.ref ps), .val (.ref vs), .val (.int fr), .val (.int to)] [(.int to), (.ref po)])) rfl rfl (hb hby d2_28)
  have N17 := Fr.snoc X17 N14 g_po
  have F17_po_dimension := F14_po_dimension.other W17 (Or.inr (slot_ne (a0 := a0) (Or.inr (hw _ (List.mem_of_getElem? (i := 30) rfl))) (Or.inr (hw _ (List.mem_of_getElem? (i := 38) rfl))) (by decide) (t := .int) (t' := .int) (by decide) (by decide)))
  have F17_po_positions := F14_po_positions.other W17 (Or.inr (slot_ne (a0 := a0) (Or.inr (hw _ (List.mem_of_getElem? (i := 32) rfl))) (Or.inr (hw _ (List.mem_of_getElem? (i := 38) rfl))) (by decide) (t := (.array .int)) (t' := .int) (by decide) (by decide)))
  have F17_po_values := F14_po_values.other W17 (Or.inr (slot_ne (a0 := a0) (Or.inr (hw _ (List.mem_of_getElem? (i := 34) rfl))) (Or.inr (hw _ (List.mem_of_getElem? (i := 38) rfl))) (by decide) (t := (.array .double)) (t' := .int) (by decide) (by decide)))
  have F17_po_from := F14_po_from.other W17 (Or.inr (slot_ne (a0 := a0) (Or.inr (hw _ (List.mem_of_getElem? (i := 36) rfl))) (Or.inr (hw _ (List.mem_of_getElem? (i := 38) rfl))) (by decide) (t := .int) (t' := .int) (by decide) (by decide)))
  have F17_po_to := F14_po_to.same W17
  have E17_po := E14_po.wr W17
  have Z17 : n0 ≤ h17.size := Nat.le_trans Z14 (Nat.le_of_eq W17.size.symm)
  have K17 := K14.wr W17 (Or.inl (List.mem_of_getElem? (i := 0) rfl))
  have r18 : Steps p.tables e below S0 (T17.setTop (mkF m 31 #[.val (.ref po), .val (.int d), .val (.ref ps), .val (.ref vs), .val (.int fr), .val (.int to)] [])) := r16.trans (st17 _ (Steps.refl _))
  obtain ⟨fs, hr, hrun, hended, hW, hsame⟩ := X17.leave (v := none) (fun _ => rfl)
  refine ⟨_, _, pre0 _ ?_, hrun, hended, _, _, rfl, ?_, ⟨_, rfl⟩, hW, hsame.mono (by decide) (by decide)⟩
  · rw [← hS0]
    refine r18.trans ?_
    show Steps p.tables e below (T17.setTop (mkF m 31 #[.val (.ref po), .val (.int d), .val (.ref ps), .val (.ref vs), .val (.int fr), .val (.int to)] [])) _
    exact X17.returnOut hx Bd.returns (hb hby d2_31) hr
  · show Qm5 Z po d ps vs fr to h0 n0 _ T17.heap _; rw [e17]; exact ⟨rfl, N17, K17, ⟨E17_po, F17_po_dimension, F17_po_positions, F17_po_values, F17_po_from, F17_po_to⟩⟩
theorem pn_1 : plainName "com/example/polytome/polytome/model/SparseVector" = true := by first | (simp [plainName, overriddenIn]; done) | decide +kernel
theorem ef_1 (m : MethodId) (x0 : Addr) (x1 : Int32) (x2 : Addr) (x3 : Addr) : entryFrame m #[(.ref x0), (.int x1), (.ref x2), (.ref x3)] 5 = mkF m 0 #[.val (.ref x0), .val (.int x1), .val (.ref x2), .val (.ref x3), .unset] [] := by first | (simp [entryFrame, mkF, argsToLocals, Value.category]; done) | rfl
def Qm3 (Z : State) (po : Addr) (d : Int32) (ps : Addr) (vs : Addr) (K : Int32) (f : Nat → Int32) (g : Nat → UInt64) (h0 : Heap) (n0 : Nat) (v : Option Value) (h : Heap) (L : List Loc) : Prop := v = none ∧ Fr n0 L ∧ ∃ b1 b2, SVf Z h po d b1 b2 0 K ∧ Gar Z h b1 .int K.toNatClampNeg (fun i => .int (f i)) ∧ Gar Z h b2 .double K.toNatClampNeg (fun i => .double (g i)) ∧ n0 ≤ h.size
set_option maxRecDepth 65536 in
set_option maxHeartbeats 40000000 in
theorem rm3 (l : Launch) (Z : State) (a0 : Array Value) (hw : ∀ d ∈ tables_1, d.before a0 Z = true) (ws : List Jvm.Cond) (po : Addr) (d : Int32) (ps : Addr) (vs : Addr) (K : Int32) (f : Nat → Int32) (g : Nat → UInt64) (h0 : Heap) (n0 : Nat) (Z0 : n0 ≤ h0.size) (Epo : Exa Z h0 po "com/example/polytome/polytome/model/SparseVector") (g_po : n0 ≤ po) (F_dimension : Fld Z h0 po "com/example/polytome/polytome/model/SparseVector" "dimension" "I" (.int (0 : Int32))) (F_positions : Fld Z h0 po "com/example/polytome/polytome/model/SparseVector" "positions" "[I" .null) (F_values : Fld Z h0 po "com/example/polytome/polytome/model/SparseVector" "values" "[D" .null) (F_from : Fld Z h0 po "com/example/polytome/polytome/model/SparseVector" "from" "I" (.int (0 : Int32))) (F_to : Fld Z h0 po "com/example/polytome/polytome/model/SparseVector" "to" "I" (.int (0 : Int32))) (Gps : Gar Z h0 ps .int K.toNatClampNeg (fun i => .int (f i))) (Gvs : Gar Z h0 vs .double K.toNatClampNeg (fun i => .double (g i))) (Eps : Exa Z h0 ps "[I") (Evs : Exa Z h0 vs "[D") (qps : po ≠ ps) (qvs : po ≠ vs) (hKK : 0 ≤ K.toInt ∧ K.toInt ≤ 3) (hpos : ∀ i : Nat, (i : Int) < K.toInt → 0 ≤ (f i).toInt ∧ (f i).toInt < d.toInt) (hinc : ∀ i : Nat, (i : Int) + 1 < K.toInt → (f i).toInt < (f (i + 1)).toInt) :
    MetFree l (⟨"com/example/polytome/polytome/model/SparseVector", "<init>", "(I[I[D)V"⟩ : MethodName) (head1 (Jvm.Cond.code (⟨"com/example/polytome/polytome/model/SparseVector", "<init>", "(I[I[D)V"⟩ : MethodName) prog_39_method_2_code 5 none :: ws) ({ frames := 2, cells := 2, slots := 6, locals := 29 } : Room)) (fun a U => a = #[(.ref po), (.int d), (.ref ps), (.ref vs)] ∧ Z.Warmed39 U.vm ∧ U.heap = h0) (fun _ _ _ _ _ => True) (fun _ U o U' => ∃ v L, o = .returned v ∧ Qm3 Z po d ps vs K f g h0 n0 v U'.heap L ∧ FrameEnd U o U' L ({ frames := 2, cells := 2, slots := 6, locals := 29 } : Room).cells ({ frames := 2, cells := 2, slots := 6, locals := 29 } : Room).slots) := by
  refine MetFree.of_bodySF (plainFor_of_name pn_1) hisR ?_
  intro p e s m args below meth c s₁ Bd hml0 hP hK
  obtain ⟨rfl, hZ, hh⟩ := hP
  have hx := Bd.exec
  have hby := Bd.bytes
  have hml : c.maxLocals = 5 := hml0
  have hown : s.vm.findClass "com/example/polytome/polytome/model/SparseVector" = some m.cls := findClass_of_methodNamed Bd.named
  have hnm := (name_of_methodNamed Bd.named Bd.method).1
  have X0 : Stand p l e ({ frames := 2, cells := 2, slots := 6, locals := 29 } : Room) s m #[(.ref po), (.int d), (.ref ps), (.ref vs)] below meth c s₁ [] 0 0 := Stand.of_body Bd
  have e0 : s₁.heap = h0 := by rw [← hh, Bd.state]; rfl
  have N0 := Fr.nil n0
  have pre0 : ∀ t, Steps p.tables e below (s₁.setTop (mkF m 0 #[.val (.ref po), .val (.int d), .val (.ref ps), .val (.ref vs), .unset] [])) t → Steps p.tables e below (s₁.setTop (entryFrame m #[(.ref po), (.int d), (.ref ps), (.ref vs)] 5)) t := fun t_ k_ => castTop (ef_1 m po d ps vs) k_
  obtain ⟨S0, hS0⟩ : ∃ z, z = s₁.setTop (mkF m 0 #[.val (.ref po), .val (.int d), .val (.ref ps), .val (.ref vs), .unset] []) := ⟨_, rfl⟩
  have r0 : Steps p.tables e below S0 (s₁.setTop (mkF m 0 #[.val (.ref po), .val (.int d), .val (.ref ps), .val (.ref vs), .unset] [])) := by rw [hS0]; exact Steps.refl _
  obtain ⟨hK0, hK3⟩ := hKK
  have hKn := nn_of hK0
  have tK := tn_of hK0
  have hK4 : K.toNatClampNeg ≤ 3 := by omega
  have r19 : Steps p.tables e below S0 (s₁.setTop (mkF m 3 #[.val (.ref po), .val (.int d), .val (.ref ps), .val (.ref vs), .unset] [(.ref ps), (.int d), (.ref po)])) := by
    refine r0.trans ?_
    show Steps p.tables e below (s₁.setTop (mkF m 0 #[.val (.ref po), .val (.int d), .val (.ref ps), .val (.ref vs), .unset] [])) _
    refine XS.aloadN X0.here hx rfl (hb hby d1_0) rfl rfl ?_
    show Steps p.tables e below (s₁.setTop (mkF m 1 #[.val (.ref po), .val (.int d), .val (.ref ps), .val (.ref vs), .unset] [(.ref po)])) _
    refine XS.iloadN X0.here hx rfl (hb hby d1_1) rfl ?_
    show Steps p.tables e below (s₁.setTop (mkF m 2 #[.val (.ref po), .val (.int d), .val (.ref ps), .val (.ref vs), .unset] [(.int d), (.ref po)])) _
    refine XS.aloadN X0.here hx rfl (hb hby d1_2) rfl rfl ?_
    exact Steps.refl _
  obtain ⟨T20, h20, X20, e20, E20, A20, B20, st20⟩ := clG X0 hx hZ (ad := "[I") hown (hw _ (List.mem_of_getElem? (i := 8) rfl)) (hw _ (List.mem_of_getElem? (i := 9) rfl)) (hw _ (List.mem_of_getElem? (i := 13) rfl)) (hw _ (List.mem_of_getElem? (i := 11) rfl)) (hw _ (List.mem_of_getElem? (i := 12) rfl)) (hw _ (List.mem_of_getElem? (i := 14) rfl)) e0 Gps Eps (fun _ _ => rfl) (g := (mkF m 3 #[.val (.ref po), .val (.int d), .val (.ref ps), .val (.ref vs), .unset] [(.ref ps), (.int d), (.ref po)])) rfl (by rw [hml]; rfl) (rest := [(.int d), (.ref po)]) rfl (hb hby d1_3) (by decide) (W := 2) (cap := 3) (by show 2 * 0 + _ ≤ _; exact Nat.le_of_eq rfl) (by decide) hK4 (by decide) (by decide)
  obtain ⟨b1, g20⟩ : ∃ z, z = h0.size := ⟨_, rfl⟩
  rw [← g20] at A20 B20 st20
  have ne_ps_b1 : ps ≠ b1 := Nat.ne_of_lt (by rw [g20]; exact Gps.lt)
  have ne_vs_b1 : vs ≠ b1 := Nat.ne_of_lt (by rw [g20]; exact Gvs.lt)
  have ne_po_b1 : po ≠ b1 := Nat.ne_of_lt (by rw [g20]; exact Epo.lt)
  have g_b1 : n0 ≤ b1 := Nat.le_trans Z0 (Nat.le_of_eq g20.symm)
  have G20_ps := Gps.ext E20
  have G20_vs := Gvs.ext E20
  have F20_po_dimension := F_dimension.ext E20
  have F20_po_positions := F_positions.ext E20
  have F20_po_values := F_values.ext E20
  have F20_po_from := F_from.ext E20
  have F20_po_to := F_to.ext E20
  have E20_po := Epo.ext E20
  have E20_ps := Eps.ext E20
  have E20_vs := Evs.ext E20
  have Z20 : n0 ≤ h20.size := Nat.le_trans Z0 E20.1
  have r21 : Steps p.tables e below S0 (T20.setTop (mkF m 6 #[.val (.ref po), .val (.int d), .val (.ref ps), .val (.ref vs), .unset] [(.ref b1), (.int d), (.ref po)])) := r19.trans (st20 _ (Steps.refl _))
  obtain ⟨T22, X22, e22, st22⟩ := castY X20 hx hZ hown (hw _ (List.mem_of_getElem? (i := 15) rfl)) e20 (Ins.self B20) (g := (mkF m 6 #[.val (.ref po), .val (.int d), .val (.ref ps), .val (.ref vs), .unset] [(.ref b1), (.int d), (.ref po)])) rfl rfl (hb hby d1_6)
  have r23 : Steps p.tables e below S0 (T22.setTop (mkF m 9 #[.val (.ref po), .val (.int d), .val (.ref ps), .val (.ref vs), .unset] [(.ref b1), (.int d), (.ref po)])) := r21.trans (st22 _ (Steps.refl _))
  have r24 : Steps p.tables e below S0 (T22.setTop (mkF m 10 #[.val (.ref po), .val (.int d), .val (.ref ps), .val (.ref vs), .unset] [(.ref vs), (.ref b1), (.int d), (.ref po)])) := by
    refine r23.trans ?_
    show Steps p.tables e below (T22.setTop (mkF m 9 #[.val (.ref po), .val (.int d), .val (.ref ps), .val (.ref vs), .unset] [(.ref b1), (.int d), (.ref po)])) _
    refine XS.aloadN X22.here hx rfl (hb hby d1_9) rfl rfl ?_
    exact Steps.refl _
  obtain ⟨T25, h25, X25, e25, E25, A25, B25, st25⟩ := clG X22 hx hZ (ad := "[D") hown (hw _ (List.mem_of_getElem? (i := 17) rfl)) (hw _ (List.mem_of_getElem? (i := 18) rfl)) (hw _ (List.mem_of_getElem? (i := 13) rfl)) (hw _ (List.mem_of_getElem? (i := 11) rfl)) (hw _ (List.mem_of_getElem? (i := 19) rfl)) (hw _ (List.mem_of_getElem? (i := 20) rfl)) e22 G20_vs E20_vs (fun _ _ => rfl) (g := (mkF m 10 #[.val (.ref po), .val (.int d), .val (.ref ps), .val (.ref vs), .unset] [(.ref vs), (.ref b1), (.int d), (.ref po)])) rfl (by rw [hml]; rfl) (rest := [(.ref b1), (.int d), (.ref po)]) rfl (hb hby d1_10) (by decide) (W := 3) (cap := 3) (by show 2 * 0 + _ ≤ _; exact Nat.le_of_eq rfl) (by decide) hK4 (by decide) (by decide)
  obtain ⟨b2, g25⟩ : ∃ z, z = h20.size := ⟨_, rfl⟩
  rw [← g25] at A25 B25 st25
  have ne_ps_b2 : ps ≠ b2 := Nat.ne_of_lt (by rw [g25]; exact G20_ps.lt)
  have ne_vs_b2 : vs ≠ b2 := Nat.ne_of_lt (by rw [g25]; exact G20_vs.lt)
  have ne_b1_b2 : b1 ≠ b2 := Nat.ne_of_lt (by rw [g25]; exact A20.lt)
  have ne_po_b2 : po ≠ b2 := Nat.ne_of_lt (by rw [g25]; exact E20_po.lt)
  have g_b2 : n0 ≤ b2 := Nat.le_trans Z20 (Nat.le_of_eq g25.symm)
  have G25_ps := G20_ps.ext E25
  have G25_vs := G20_vs.ext E25
  have G25_b1 := A20.ext E25
  have F25_po_dimension := F20_po_dimension.ext E25
  have F25_po_positions := F20_po_positions.ext E25
  have F25_po_values := F20_po_values.ext E25
  have F25_po_from := F20_po_from.ext E25
  have F25_po_to := F20_po_to.ext E25
  have E25_po := E20_po.ext E25
  have E25_ps := E20_ps.ext E25
  have E25_vs := E20_vs.ext E25
  have E25_b1 := B20.ext E25
  have Z25 : n0 ≤ h25.size := Nat.le_trans Z20 E25.1
  have r26 : Steps p.tables e below S0 (T25.setTop (mkF m 13 #[.val (.ref po), .val (.int d), .val (.ref ps), .val (.ref vs), .unset] [(.ref b2), (.ref b1), (.int d), (.ref po)])) := r24.trans (st25 _ (Steps.refl _))
  obtain ⟨T27, X27, e27, st27⟩ := castY X25 hx hZ hown (hw _ (List.mem_of_getElem? (i := 21) rfl)) e25 (Ins.self B25) (g := (mkF m 13 #[.val (.ref po), .val (.int d), .val (.ref ps), .val (.ref vs), .unset] [(.ref b2), (.ref b1), (.int d), (.ref po)])) rfl rfl (hb hby d1_13)
  have r28 : Steps p.tables e below S0 (T27.setTop (mkF m 16 #[.val (.ref po), .val (.int d), .val (.ref ps), .val (.ref vs), .unset] [(.ref b2), (.ref b1), (.int d), (.ref po)])) := r26.trans (st27 _ (Steps.refl _))
  have r29 : Steps p.tables e below S0 (T27.setTop (mkF m 19 #[.val (.ref po), .val (.int d), .val (.ref ps), .val (.ref vs), .unset] [(.int K), (.int (0 : Int32)), (.ref b2), (.ref b1), (.int d), (.ref po)])) := by
    refine r28.trans ?_
    show Steps p.tables e below (T27.setTop (mkF m 16 #[.val (.ref po), .val (.int d), .val (.ref ps), .val (.ref vs), .unset] [(.ref b2), (.ref b1), (.int d), (.ref po)])) _
    refine XS.iconst X27.here hx rfl (hb hby d1_16) ?_
    show Steps p.tables e below (T27.setTop (mkF m 17 #[.val (.ref po), .val (.int d), .val (.ref ps), .val (.ref vs), .unset] [(.int (0 : Int32)), (.ref b2), (.ref b1), (.int d), (.ref po)])) _
    refine XS.aloadN X27.here hx rfl (hb hby d1_17) rfl rfl ?_
    show Steps p.tables e below (T27.setTop (mkF m 18 #[.val (.ref po), .val (.int d), .val (.ref ps), .val (.ref vs), .unset] [(.ref ps), (.int (0 : Int32)), (.ref b2), (.ref b1), (.int d), (.ref po)])) _
    refine lnG X27 hx hZ e27 G25_ps (z := K) (back32 hKn).1 (g := (mkF m 18 #[.val (.ref po), .val (.int d), .val (.ref ps), .val (.ref vs), .unset] [(.ref ps), (.int (0 : Int32)), (.ref b2), (.ref b1), (.int d), (.ref po)])) rfl rfl (hb hby d1_18) _ ?_
    exact Steps.refl _
  obtain ⟨_, _, ⟨T30, L30, k30, n30⟩, -, X30, ⟨Lc30, hQ30, l30, y30, z30⟩, st30⟩ := X27.specialBack hx (y := (⟨"com/example/polytome/polytome/model/SparseVector", "<init>", "(I[I[DII)V"⟩ : MethodName)) rfl hown (mvT hZ (hw _ (List.mem_of_getElem? (i := 23) rfl))) (mvT hZ (hw _ (List.mem_of_getElem? (i := 24) rfl))) (mvT hZ (hw _ (List.mem_of_getElem? (i := 25) rfl))) (by decide) (backOf (W := 0) (rm5 l Z a0 hw [] po d b1 b2 (0 : Int32) K h25 n0 Z25 E25_po g_po F25_po_dimension F25_po_positions F25_po_values F25_po_from F25_po_to) hZ (hw _ (List.mem_of_getElem? (i := 25) rfl)) (hw _ (List.mem_of_getElem? (i := 2) rfl)) (by decide) (by decide)) (g := (mkF m 19 #[.val (.ref po), .val (.int d), .val (.ref ps), .val (.ref vs), .unset] [(.int K), (.int (0 : Int32)), (.ref b2), (.ref b1), (.int d), (.ref po)])) rfl (by rw [hml]; rfl) (Steps.refl _) (a := po) (argsL := [(.int d), (.ref b1), (.ref b2), (.int (0 : Int32)), (.int K)]) (rest := []) (lenOf pd_0 rfl) rfl (by show 2 * 0 + _ ≤ _; exact Nat.le_of_eq rfl) (hb hby d1_19) (fun _ _ => ⟨rfl, e27, (by decide : ((0 + 1) + 1) + 0 ≤ _), (by decide : ((0 + 3) + 3) + 0 ≤ _)⟩)
  dsimp only [Pt.U, Pt.locs, Pt.cells, Pt.slots] at X30 l30 y30 z30 st30 hQ30
  subst l30 y30 z30
  obtain ⟨rfl, Nq30, Kc30, hSV⟩ := hQ30
  have N30 := Fr.app N0 Nq30
  have r31 : Steps p.tables e below S0 (T30.setTop (mkF m 22 #[.val (.ref po), .val (.int d), .val (.ref ps), .val (.ref vs), .unset] [])) := r29.trans st30
  have G30_ps := G25_ps.keep Kc30 (ninS (Ne.symm qps) nin0)
  have G30_vs := G25_vs.keep Kc30 (ninS (Ne.symm qvs) nin0)
  have G30_b1 := G25_b1.keep Kc30 (ninS (Ne.symm ne_po_b1) nin0)
  have G30_b2 := A25.keep Kc30 (ninS (Ne.symm ne_po_b2) nin0)
  have E30_po := E25_po.keep Kc30
  have E30_ps := E25_ps.keep Kc30
  have E30_vs := E25_vs.keep Kc30
  have E30_b1 := E25_b1.keep Kc30
  have E30_b2 := B25.keep Kc30
  have Z30 : n0 ≤ T30.heap.size := Nat.le_trans Z25 Kc30.1
  have r32 : Steps p.tables e below S0 (T30.setTop (mkF m 49 #[.val (.ref po), .val (.int d), .val (.ref ps), .val (.ref vs), .val (.int (0 : Int32))] [])) := by
    refine r31.trans ?_
    show Steps p.tables e below (T30.setTop (mkF m 22 #[.val (.ref po), .val (.int d), .val (.ref ps), .val (.ref vs), .unset] [])) _
    refine XS.aloadN X30.here hx rfl (hb hby d1_22) rfl rfl ?_
    show Steps p.tables e below (T30.setTop (mkF m 23 #[.val (.ref po), .val (.int d), .val (.ref ps), .val (.ref vs), .unset] [(.ref vs)])) _
    refine lnG X30 hx hZ rfl G30_vs (z := K) (back32 hKn).1 (g := (mkF m 23 #[.val (.ref po), .val (.int d), .val (.ref ps), .val (.ref vs), .unset] [(.ref vs)])) rfl rfl (hb hby d1_23) _ ?_
    show Steps p.tables e below (T30.setTop (mkF m 24 #[.val (.ref po), .val (.int d), .val (.ref ps), .val (.ref vs), .unset] [(.int K)])) _
    refine XS.aloadN X30.here hx rfl (hb hby d1_24) rfl rfl ?_
    show Steps p.tables e below (T30.setTop (mkF m 25 #[.val (.ref po), .val (.int d), .val (.ref ps), .val (.ref vs), .unset] [(.ref ps), (.int K)])) _
    refine lnG X30 hx hZ rfl G30_ps (z := K) (back32 hKn).1 (g := (mkF m 25 #[.val (.ref po), .val (.int d), .val (.ref ps), .val (.ref vs), .unset] [(.ref ps), (.int K)])) rfl rfl (hb hby d1_25) _ ?_
    show Steps p.tables e below (T30.setTop (mkF m 26 #[.val (.ref po), .val (.int d), .val (.ref ps), .val (.ref vs), .unset] [(.int K), (.int K)])) _
    refine XS.icmpYes X30.here hx rfl (pc0 := 26) (pc' := 46) rfl (hb hby d1_26) rfl (teq rfl).1 (by decide) (by decide) ?_
    show Steps p.tables e below (T30.setTop (mkF m 46 #[.val (.ref po), .val (.int d), .val (.ref ps), .val (.ref vs), .unset] [])) _
    refine XS.iconst X30.here hx rfl (hb hby d1_46) ?_
    show Steps p.tables e below (T30.setTop (mkF m 47 #[.val (.ref po), .val (.int d), .val (.ref ps), .val (.ref vs), .unset] [(.int (0 : Int32))])) _
    refine XS.istore X30.here hx rfl (hb hby d1_47) rfl (l' := #[.val (.ref po), .val (.int d), .val (.ref ps), .val (.ref vs), .val (.int (0 : Int32))]) rfl ?_
    exact Steps.refl _
  have loop : ∀ (k : Nat) (ei : Int32), 0 ≤ ei.toInt → ei.toInt + (k : Int) = K.toInt → ∃ z2 : Int32, Steps p.tables e below (T30.setTop (mkF m 49 #[.val (.ref po), .val (.int d), .val (.ref ps), .val (.ref vs), .val (.int ei)] [])) (T30.setTop (mkF m 113 #[.val (.ref po), .val (.int d), .val (.ref ps), .val (.ref vs), .val (.int z2)] [])) := by
    intro k
    induction k with
    | zero =>
      intro ei h1 h2
      have q0 : Steps p.tables e below (T30.setTop (mkF m 49 #[.val (.ref po), .val (.int d), .val (.ref ps), .val (.ref vs), .val (.int ei)] [])) (T30.setTop (mkF m 49 #[.val (.ref po), .val (.int d), .val (.ref ps), .val (.ref vs), .val (.int ei)] [])) := Steps.refl _
      have hge : ¬ ei < K := fun q => by have := Int32.lt_iff_toInt_lt.mp q; omega
      have r33 : Steps p.tables e below (T30.setTop (mkF m 49 #[.val (.ref po), .val (.int d), .val (.ref ps), .val (.ref vs), .val (.int ei)] [])) (T30.setTop (mkF m 113 #[.val (.ref po), .val (.int d), .val (.ref ps), .val (.ref vs), .val (.int ei)] [])) := by
        refine q0.trans ?_
        show Steps p.tables e below (T30.setTop (mkF m 49 #[.val (.ref po), .val (.int d), .val (.ref ps), .val (.ref vs), .val (.int ei)] [])) _
        refine XS.iload X30.here hx rfl (hb hby d1_49) rfl ?_
        show Steps p.tables e below (T30.setTop (mkF m 51 #[.val (.ref po), .val (.int d), .val (.ref ps), .val (.ref vs), .val (.int ei)] [(.int ei)])) _
        refine XS.aloadN X30.here hx rfl (hb hby d1_51) rfl rfl ?_
        show Steps p.tables e below (T30.setTop (mkF m 52 #[.val (.ref po), .val (.int d), .val (.ref ps), .val (.ref vs), .val (.int ei)] [(.ref ps), (.int ei)])) _
        refine lnG X30 hx hZ rfl G30_ps (z := K) (back32 hKn).1 (g := (mkF m 52 #[.val (.ref po), .val (.int d), .val (.ref ps), .val (.ref vs), .val (.int ei)] [(.ref ps), (.int ei)])) rfl rfl (hb hby d1_52) _ ?_
        show Steps p.tables e below (T30.setTop (mkF m 53 #[.val (.ref po), .val (.int d), .val (.ref ps), .val (.ref vs), .val (.int ei)] [(.int K), (.int ei)])) _
        refine XS.icmpYes X30.here hx rfl (pc0 := 53) (pc' := 113) rfl (hb hby d1_53) rfl (flt hge).2.1 (by decide) (by decide) ?_
        exact Steps.refl _
      exact ⟨ei, r33⟩
    | succ k ih =>
      intro ei h1 h2
      have q0 : Steps p.tables e below (T30.setTop (mkF m 49 #[.val (.ref po), .val (.int d), .val (.ref ps), .val (.ref vs), .val (.int ei)] [])) (T30.setTop (mkF m 49 #[.val (.ref po), .val (.int d), .val (.ref ps), .val (.ref vs), .val (.int ei)] [])) := Steps.refl _
      have hlt : ei < K := Int32.lt_iff_toInt_lt.mpr (by omega)
      have hn := nn_of h1
      have te := tn_of h1
      have hbp := hpos ei.toNatClampNeg (by omega)
      have hp0 := nn_of hbp.1
      have hpd : f ei.toNatClampNeg < d := Int32.lt_iff_toInt_lt.mpr hbp.2
      have e1 : (ei + (1 : Int32)).toInt = ei.toInt + 1 := by have q := c_iadd ei 1; have := rng32 (ei + (1 : Int32)); rw [show (1 : Int32).toInt = 1 by decide] at q; omega
      obtain ⟨z2, hz2⟩ := ih (ei + (1 : Int32)) (by omega) (by omega)
      have r34 : Steps p.tables e below (T30.setTop (mkF m 49 #[.val (.ref po), .val (.int d), .val (.ref ps), .val (.ref vs), .val (.int ei)] [])) (T30.setTop (mkF m 73 #[.val (.ref po), .val (.int d), .val (.ref ps), .val (.ref vs), .val (.int ei)] [(.int ei)])) := by
        refine q0.trans ?_
        show Steps p.tables e below (T30.setTop (mkF m 49 #[.val (.ref po), .val (.int d), .val (.ref ps), .val (.ref vs), .val (.int ei)] [])) _
        refine XS.iload X30.here hx rfl (hb hby d1_49) rfl ?_
        show Steps p.tables e below (T30.setTop (mkF m 51 #[.val (.ref po), .val (.int d), .val (.ref ps), .val (.ref vs), .val (.int ei)] [(.int ei)])) _
        refine XS.aloadN X30.here hx rfl (hb hby d1_51) rfl rfl ?_
        show Steps p.tables e below (T30.setTop (mkF m 52 #[.val (.ref po), .val (.int d), .val (.ref ps), .val (.ref vs), .val (.int ei)] [(.ref ps), (.int ei)])) _
        refine lnG X30 hx hZ rfl G30_ps (z := K) (back32 hKn).1 (g := (mkF m 52 #[.val (.ref po), .val (.int d), .val (.ref ps), .val (.ref vs), .val (.int ei)] [(.ref ps), (.int ei)])) rfl rfl (hb hby d1_52) _ ?_
        show Steps p.tables e below (T30.setTop (mkF m 53 #[.val (.ref po), .val (.int d), .val (.ref ps), .val (.ref vs), .val (.int ei)] [(.int K), (.int ei)])) _
        refine XS.icmpNo X30.here hx rfl (hb hby d1_53) rfl (tlt hlt).2.1 ?_
        show Steps p.tables e below (T30.setTop (mkF m 56 #[.val (.ref po), .val (.int d), .val (.ref ps), .val (.ref vs), .val (.int ei)] [])) _
        refine XS.aloadN X30.here hx rfl (hb hby d1_56) rfl rfl ?_
        show Steps p.tables e below (T30.setTop (mkF m 57 #[.val (.ref po), .val (.int d), .val (.ref ps), .val (.ref vs), .val (.int ei)] [(.ref ps)])) _
        refine XS.iload X30.here hx rfl (hb hby d1_57) rfl ?_
        show Steps p.tables e below (T30.setTop (mkF m 59 #[.val (.ref po), .val (.int d), .val (.ref ps), .val (.ref vs), .val (.int ei)] [(.int ei), (.ref ps)])) _
        refine ldI X30 hx hZ rfl G30_ps (j := ei) hn (by omega) (v := (.int (f ei.toNatClampNeg))) rfl (g := (mkF m 59 #[.val (.ref po), .val (.int d), .val (.ref ps), .val (.ref vs), .val (.int ei)] [(.int ei), (.ref ps)])) rfl rfl (hb hby d1_59) _ ?_
        show Steps p.tables e below (T30.setTop (mkF m 60 #[.val (.ref po), .val (.int d), .val (.ref ps), .val (.ref vs), .val (.int ei)] [(.int (f ei.toNatClampNeg))])) _
        refine XS.ifNo X30.here hx rfl (hb hby d1_60) rfl ((if0 _ _).trans (flt hp0).1) ?_
        show Steps p.tables e below (T30.setTop (mkF m 63 #[.val (.ref po), .val (.int d), .val (.ref ps), .val (.ref vs), .val (.int ei)] [])) _
        refine XS.aloadN X30.here hx rfl (hb hby d1_63) rfl rfl ?_
        show Steps p.tables e below (T30.setTop (mkF m 64 #[.val (.ref po), .val (.int d), .val (.ref ps), .val (.ref vs), .val (.int ei)] [(.ref ps)])) _
        refine XS.iload X30.here hx rfl (hb hby d1_64) rfl ?_
        show Steps p.tables e below (T30.setTop (mkF m 66 #[.val (.ref po), .val (.int d), .val (.ref ps), .val (.ref vs), .val (.int ei)] [(.int ei), (.ref ps)])) _
        refine ldI X30 hx hZ rfl G30_ps (j := ei) hn (by omega) (v := (.int (f ei.toNatClampNeg))) rfl (g := (mkF m 66 #[.val (.ref po), .val (.int d), .val (.ref ps), .val (.ref vs), .val (.int ei)] [(.int ei), (.ref ps)])) rfl rfl (hb hby d1_66) _ ?_
        show Steps p.tables e below (T30.setTop (mkF m 67 #[.val (.ref po), .val (.int d), .val (.ref ps), .val (.ref vs), .val (.int ei)] [(.int (f ei.toNatClampNeg))])) _
        refine XS.iloadN X30.here hx rfl (hb hby d1_67) rfl ?_
        show Steps p.tables e below (T30.setTop (mkF m 68 #[.val (.ref po), .val (.int d), .val (.ref ps), .val (.ref vs), .val (.int ei)] [(.int d), (.int (f ei.toNatClampNeg))])) _
        refine XS.icmpNo X30.here hx rfl (hb hby d1_68) rfl (tlt hpd).2.1 ?_
        show Steps p.tables e below (T30.setTop (mkF m 71 #[.val (.ref po), .val (.int d), .val (.ref ps), .val (.ref vs), .val (.int ei)] [])) _
        refine XS.iload X30.here hx rfl (hb hby d1_71) rfl ?_
        exact Steps.refl _
      by_cases hz : (0 : Int32) < ei
      · skip
        have hz' := Int32.lt_iff_toInt_lt.mp hz
        rw [show (0 : Int32).toInt = 0 by decide] at hz'
        have e2 : (ei - (1 : Int32)).toInt = ei.toInt - 1 := by have q := c_isub ei 1; have := rng32 (ei - (1 : Int32)); rw [show (1 : Int32).toInt = 1 by decide] at q; omega
        have hn2 := nn_of (x := ei - (1 : Int32)) (by omega)
        have te2 := tn_of (x := ei - (1 : Int32)) (by omega)
        have hi := hinc (ei - (1 : Int32)).toNatClampNeg (by omega)
        rw [show (ei - (1 : Int32)).toNatClampNeg + 1 = ei.toNatClampNeg by omega] at hi
        have hgt : f (ei - (1 : Int32)).toNatClampNeg < f ei.toNatClampNeg := Int32.lt_iff_toInt_lt.mpr hi
        have r35 : Steps p.tables e below (T30.setTop (mkF m 49 #[.val (.ref po), .val (.int d), .val (.ref ps), .val (.ref vs), .val (.int ei)] [])) (T30.setTop (mkF m 49 #[.val (.ref po), .val (.int d), .val (.ref ps), .val (.ref vs), .val (.int (ei + (1 : Int32)))] [])) := by
          refine r34.trans ?_
          show Steps p.tables e below (T30.setTop (mkF m 73 #[.val (.ref po), .val (.int d), .val (.ref ps), .val (.ref vs), .val (.int ei)] [(.int ei)])) _
          refine XS.ifNo X30.here hx rfl (hb hby d1_73) rfl ((if0 _ _).trans (tlt hz).2.2.2) ?_
          show Steps p.tables e below (T30.setTop (mkF m 76 #[.val (.ref po), .val (.int d), .val (.ref ps), .val (.ref vs), .val (.int ei)] [])) _
          refine XS.aloadN X30.here hx rfl (hb hby d1_76) rfl rfl ?_
          show Steps p.tables e below (T30.setTop (mkF m 77 #[.val (.ref po), .val (.int d), .val (.ref ps), .val (.ref vs), .val (.int ei)] [(.ref ps)])) _
          refine XS.iload X30.here hx rfl (hb hby d1_77) rfl ?_
          show Steps p.tables e below (T30.setTop (mkF m 79 #[.val (.ref po), .val (.int d), .val (.ref ps), .val (.ref vs), .val (.int ei)] [(.int ei), (.ref ps)])) _
          refine ldI X30 hx hZ rfl G30_ps (j := ei) hn (by omega) (v := (.int (f ei.toNatClampNeg))) rfl (g := (mkF m 79 #[.val (.ref po), .val (.int d), .val (.ref ps), .val (.ref vs), .val (.int ei)] [(.int ei), (.ref ps)])) rfl rfl (hb hby d1_79) _ ?_
          show Steps p.tables e below (T30.setTop (mkF m 80 #[.val (.ref po), .val (.int d), .val (.ref ps), .val (.ref vs), .val (.int ei)] [(.int (f ei.toNatClampNeg))])) _
          refine XS.aloadN X30.here hx rfl (hb hby d1_80) rfl rfl ?_
          show Steps p.tables e below (T30.setTop (mkF m 81 #[.val (.ref po), .val (.int d), .val (.ref ps), .val (.ref vs), .val (.int ei)] [(.ref ps), (.int (f ei.toNatClampNeg))])) _
          refine XS.iload X30.here hx rfl (hb hby d1_81) rfl ?_
          show Steps p.tables e below (T30.setTop (mkF m 83 #[.val (.ref po), .val (.int d), .val (.ref ps), .val (.ref vs), .val (.int ei)] [(.int ei), (.ref ps), (.int (f ei.toNatClampNeg))])) _
          refine XS.iconst X30.here hx rfl (hb hby d1_83) ?_
          show Steps p.tables e below (T30.setTop (mkF m 84 #[.val (.ref po), .val (.int d), .val (.ref ps), .val (.ref vs), .val (.int ei)] [(.int (1 : Int32)), (.int ei), (.ref ps), (.int (f ei.toNatClampNeg))])) _
          refine XS.isub X30.here hx rfl (hb hby d1_84) rfl ?_
          show Steps p.tables e below (T30.setTop (mkF m 85 #[.val (.ref po), .val (.int d), .val (.ref ps), .val (.ref vs), .val (.int ei)] [(.int (ei - (1 : Int32))), (.ref ps), (.int (f ei.toNatClampNeg))])) _
          refine ldI X30 hx hZ rfl G30_ps (j := (ei - (1 : Int32))) hn2 (by omega) (v := (.int (f (ei - (1 : Int32)).toNatClampNeg))) rfl (g := (mkF m 85 #[.val (.ref po), .val (.int d), .val (.ref ps), .val (.ref vs), .val (.int ei)] [(.int (ei - (1 : Int32))), (.ref ps), (.int (f ei.toNatClampNeg))])) rfl rfl (hb hby d1_85) _ ?_
          show Steps p.tables e below (T30.setTop (mkF m 86 #[.val (.ref po), .val (.int d), .val (.ref ps), .val (.ref vs), .val (.int ei)] [(.int (f (ei - (1 : Int32)).toNatClampNeg)), (.int (f ei.toNatClampNeg))])) _
          refine XS.icmpYes X30.here hx rfl (pc0 := 86) (pc' := 107) rfl (hb hby d1_86) rfl (tlt hgt).2.2.1 (by decide) (by decide) ?_
          show Steps p.tables e below (T30.setTop (mkF m 107 #[.val (.ref po), .val (.int d), .val (.ref ps), .val (.ref vs), .val (.int ei)] [])) _
          refine XS.iinc X30.here hx rfl (hb hby d1_107) rfl (l' := #[.val (.ref po), .val (.int d), .val (.ref ps), .val (.ref vs), .val (.int (ei + (1 : Int32)))]) rfl ?_
          show Steps p.tables e below (T30.setTop (mkF m 110 #[.val (.ref po), .val (.int d), .val (.ref ps), .val (.ref vs), .val (.int (ei + (1 : Int32)))] [])) _
          refine XS.goto X30.here hx rfl (pc0 := 110) (pc' := 49) rfl (hb hby d1_110) (by decide) (by decide) ?_
          exact Steps.refl _
        exact ⟨z2, r35.trans hz2⟩
      · skip
        have r36 : Steps p.tables e below (T30.setTop (mkF m 49 #[.val (.ref po), .val (.int d), .val (.ref ps), .val (.ref vs), .val (.int ei)] [])) (T30.setTop (mkF m 49 #[.val (.ref po), .val (.int d), .val (.ref ps), .val (.ref vs), .val (.int (ei + (1 : Int32)))] [])) := by
          refine r34.trans ?_
          show Steps p.tables e below (T30.setTop (mkF m 73 #[.val (.ref po), .val (.int d), .val (.ref ps), .val (.ref vs), .val (.int ei)] [(.int ei)])) _
          refine XS.ifYes X30.here hx rfl (pc0 := 73) (pc' := 107) rfl (hb hby d1_73) rfl ((if0 _ _).trans (flt hz).2.2.2) (by decide) (by decide) ?_
          show Steps p.tables e below (T30.setTop (mkF m 107 #[.val (.ref po), .val (.int d), .val (.ref ps), .val (.ref vs), .val (.int ei)] [])) _
          refine XS.iinc X30.here hx rfl (hb hby d1_107) rfl (l' := #[.val (.ref po), .val (.int d), .val (.ref ps), .val (.ref vs), .val (.int (ei + (1 : Int32)))]) rfl ?_
          show Steps p.tables e below (T30.setTop (mkF m 110 #[.val (.ref po), .val (.int d), .val (.ref ps), .val (.ref vs), .val (.int (ei + (1 : Int32)))] [])) _
          refine XS.goto X30.here hx rfl (pc0 := 110) (pc' := 49) rfl (hb hby d1_110) (by decide) (by decide) ?_
          exact Steps.refl _
        exact ⟨z2, r36.trans hz2⟩
  obtain ⟨z2, hz2⟩ := loop K.toInt.toNat 0 (by decide) (by rw [show (0 : Int32).toInt = 0 by decide]; omega)
  have r37 : Steps p.tables e below S0 (T30.setTop (mkF m 113 #[.val (.ref po), .val (.int d), .val (.ref ps), .val (.ref vs), .val (.int z2)] [])) := r32.trans hz2
  obtain ⟨fs, hr, hrun, hended, hW, hsame⟩ := X30.leave (v := none) (fun _ => rfl)
  refine ⟨_, _, pre0 _ ?_, hrun, hended, _, _, rfl, ?_, ⟨_, rfl⟩, hW, hsame.mono (by decide) (by decide)⟩
  · rw [← hS0]
    refine r37.trans ?_
    show Steps p.tables e below (T30.setTop (mkF m 113 #[.val (.ref po), .val (.int d), .val (.ref ps), .val (.ref vs), .val (.int z2)] [])) _
    exact X30.returnOut hx Bd.returns (hb hby d1_113) hr
  · show Qm3 Z po d ps vs K f g h0 n0 _ T30.heap _; exact ⟨rfl, N30, b1, b2, hSV, G30_b1, G30_b2, Z30⟩
theorem pn_7 : plainName "com/example/polytome/polytome/model/SparseVector" = true := by first | (simp [plainName, overriddenIn]; done) | decide +kernel
theorem ef_7 (m : MethodId) (x0 : Int32) (x1 : Addr) (x2 : Addr) (x3 : Int32) (x4 : Int32) : entryFrame m #[(.int x0), (.ref x1), (.ref x2), (.int x3), (.int x4)] 5 = mkF m 0 #[.val (.int x0), .val (.ref x1), .val (.ref x2), .val (.int x3), .val (.int x4)] [] := by first | (simp [entryFrame, mkF, argsToLocals, Value.category]; done) | rfl
def QmW (Z : State) (d : Int32) (ps : Addr) (vs : Addr) (fr : Int32) (to : Int32)  (h0 : Heap) (n0 : Nat) (v : Option Value) (h : Heap) (L : List Loc) : Prop := ∃ sv, v = some (.ref sv) ∧ SVf Z h sv d ps vs fr to ∧ Keep h0 h [] ∧ n0 ≤ h.size ∧ Fr n0 L
set_option maxRecDepth 65536 in
set_option maxHeartbeats 40000000 in
theorem rmW (l : Launch) (Z : State) (a0 : Array Value) (hw : ∀ d ∈ tables_1, d.before a0 Z = true) (ws : List Jvm.Cond) (d : Int32) (ps : Addr) (vs : Addr) (fr : Int32) (to : Int32)  (h0 : Heap) (n0 : Nat) (Z0 : n0 ≤ h0.size)  :
    MetFree l (⟨"com/example/polytome/polytome/model/SparseVector", "view", "(I[I[DII)Lcom/example/polytome/polytome/model/SparseVector;"⟩ : MethodName) (head1 (Jvm.Cond.code (⟨"com/example/polytome/polytome/model/SparseVector", "view", "(I[I[DII)Lcom/example/polytome/polytome/model/SparseVector;"⟩ : MethodName) prog_39_method_4_code 5 (some (.object "com/example/polytome/polytome/model/SparseVector")) :: ws) ({ frames := 2, cells := 1, slots := 5, locals := 31 } : Room)) (fun a U => a = #[(.int d), (.ref ps), (.ref vs), (.int fr), (.int to)] ∧ Z.Warmed39 U.vm ∧ U.heap = h0) (fun _ _ _ _ _ => True) (fun _ U o U' => ∃ v L, o = .returned v ∧ QmW Z d ps vs fr to h0 n0 v U'.heap L ∧ FrameEnd U o U' L ({ frames := 2, cells := 1, slots := 5, locals := 31 } : Room).cells ({ frames := 2, cells := 1, slots := 5, locals := 31 } : Room).slots) := by
  refine MetFree.of_bodySF (plainFor_of_name pn_7) hisR ?_
  intro p e s m args below meth c s₁ Bd hml0 hP hK
  obtain ⟨rfl, hZ, hh⟩ := hP
  have hx := Bd.exec
  have hby := Bd.bytes
  have hml : c.maxLocals = 5 := hml0
  have hown : s.vm.findClass "com/example/polytome/polytome/model/SparseVector" = some m.cls := findClass_of_methodNamed Bd.named
  have hnm := (name_of_methodNamed Bd.named Bd.method).1
  have X0 : Stand p l e ({ frames := 2, cells := 1, slots := 5, locals := 31 } : Room) s m #[(.int d), (.ref ps), (.ref vs), (.int fr), (.int to)] below meth c s₁ [] 0 0 := Stand.of_body Bd
  have e0 : s₁.heap = h0 := by rw [← hh, Bd.state]; rfl
  have N0 := Fr.nil n0
  have pre0 : ∀ t, Steps p.tables e below (s₁.setTop (mkF m 0 #[.val (.int d), .val (.ref ps), .val (.ref vs), .val (.int fr), .val (.int to)] [])) t → Steps p.tables e below (s₁.setTop (entryFrame m #[(.int d), (.ref ps), (.ref vs), (.int fr), (.int to)] 5)) t := fun t_ k_ => castTop (ef_7 m d ps vs fr to) k_
  obtain ⟨S0, hS0⟩ : ∃ z, z = s₁.setTop (mkF m 0 #[.val (.int d), .val (.ref ps), .val (.ref vs), .val (.int fr), .val (.int to)] []) := ⟨_, rfl⟩
  have r0 : Steps p.tables e below S0 (s₁.setTop (mkF m 0 #[.val (.int d), .val (.ref ps), .val (.ref vs), .val (.int fr), .val (.int to)] [])) := by rw [hS0]; exact Steps.refl _
  have K0 := Keep.refl h0 []
  obtain ⟨T38, h38, X38, e38, E38, A38, D38, -, st38⟩ := newO X0 hx hZ hown (hw _ (List.mem_of_getElem? (i := 54) rfl)) (hw _ (List.mem_of_getElem? (i := 1) rfl)) (hw _ (List.mem_of_getElem? (i := 2) rfl)) e0 (g := (mkF m 0 #[.val (.int d), .val (.ref ps), .val (.ref vs), .val (.int fr), .val (.int to)] [])) rfl (hb hby d7_0) (by decide) (by decide)
  obtain ⟨sv, g38⟩ : ∃ z, z = h0.size := ⟨_, rfl⟩
  rw [← g38] at A38 D38 st38
  have g_sv : n0 ≤ sv := Nat.le_trans Z0 (Nat.le_of_eq g38.symm)
  have sz_sv : h0.size ≤ sv := Nat.le_trans K0.1 (Nat.le_of_eq g38.symm)
  have Z38 : n0 ≤ h38.size := Nat.le_trans Z0 E38.1
  have K38 := K0.ext E38
  have F_sv_dimension : Fld Z h38 sv "com/example/polytome/polytome/model/SparseVector" "dimension" "I" (.int (0 : Int32)) := D38 (Or.inr (hw _ (List.mem_of_getElem? (i := 30) rfl))) (ty := .int) (by decide)
  have F_sv_positions : Fld Z h38 sv "com/example/polytome/polytome/model/SparseVector" "positions" "[I" .null := D38 (Or.inr (hw _ (List.mem_of_getElem? (i := 32) rfl))) (ty := (.array .int)) (by decide)
  have F_sv_values : Fld Z h38 sv "com/example/polytome/polytome/model/SparseVector" "values" "[D" .null := D38 (Or.inr (hw _ (List.mem_of_getElem? (i := 34) rfl))) (ty := (.array .double)) (by decide)
  have F_sv_from : Fld Z h38 sv "com/example/polytome/polytome/model/SparseVector" "from" "I" (.int (0 : Int32)) := D38 (Or.inr (hw _ (List.mem_of_getElem? (i := 36) rfl))) (ty := .int) (by decide)
  have F_sv_to : Fld Z h38 sv "com/example/polytome/polytome/model/SparseVector" "to" "I" (.int (0 : Int32)) := D38 (Or.inr (hw _ (List.mem_of_getElem? (i := 38) rfl))) (ty := .int) (by decide)
  have r39 : Steps p.tables e below S0 (T38.setTop (mkF m 3 #[.val (.int d), .val (.ref ps), .val (.ref vs), .val (.int fr), .val (.int to)] [(.ref sv)])) := r0.trans (st38 _ (Steps.refl _))
  have r40 : Steps p.tables e below S0 (T38.setTop (mkF m 10 #[.val (.int d), .val (.ref ps), .val (.ref vs), .val (.int fr), .val (.int to)] [(.int to), (.int fr), (.ref vs), (.ref ps), (.int d), (.ref sv), (.ref sv)])) := by
    refine r39.trans ?_
    show Steps p.tables e below (T38.setTop (mkF m 3 #[.val (.int d), .val (.ref ps), .val (.ref vs), .val (.int fr), .val (.int to)] [(.ref sv)])) _
    refine XS.dup X38.here hx rfl (hb hby d7_3) rfl rfl ?_
    show Steps p.tables e below (T38.setTop (mkF m 4 #[.val (.int d), .val (.ref ps), .val (.ref vs), .val (.int fr), .val (.int to)] [(.ref sv), (.ref sv)])) _
    refine XS.iloadN X38.here hx rfl (hb hby d7_4) rfl ?_
    show Steps p.tables e below (T38.setTop (mkF m 5 #[.val (.int d), .val (.ref ps), .val (.ref vs), .val (.int fr), .val (.int to)] [(.int d), (.ref sv), (.ref sv)])) _
    refine XS.aloadN X38.here hx rfl (hb hby d7_5) rfl rfl ?_
    show Steps p.tables e below (T38.setTop (mkF m 6 #[.val (.int d), .val (.ref ps), .val (.ref vs), .val (.int fr), .val (.int to)] [(.ref ps), (.int d), (.ref sv), (.ref sv)])) _
    refine XS.aloadN X38.here hx rfl (hb hby d7_6) rfl rfl ?_
    show Steps p.tables e below (T38.setTop (mkF m 7 #[.val (.int d), .val (.ref ps), .val (.ref vs), .val (.int fr), .val (.int to)] [(.ref vs), (.ref ps), (.int d), (.ref sv), (.ref sv)])) _
    refine XS.iloadN X38.here hx rfl (hb hby d7_7) rfl ?_
    show Steps p.tables e below (T38.setTop (mkF m 8 #[.val (.int d), .val (.ref ps), .val (.ref vs), .val (.int fr), .val (.int to)] [(.int fr), (.ref vs), (.ref ps), (.int d), (.ref sv), (.ref sv)])) _
    refine XS.iload X38.here hx rfl (hb hby d7_8) rfl ?_
    exact Steps.refl _
  obtain ⟨_, _, ⟨T41, L41, k41, n41⟩, -, X41, ⟨Lc41, hQ41, l41, y41, z41⟩, st41⟩ := X38.specialBack hx (y := (⟨"com/example/polytome/polytome/model/SparseVector", "<init>", "(I[I[DII)V"⟩ : MethodName)) rfl hown (mvT hZ (hw _ (List.mem_of_getElem? (i := 23) rfl))) (mvT hZ (hw _ (List.mem_of_getElem? (i := 24) rfl))) (mvT hZ (hw _ (List.mem_of_getElem? (i := 25) rfl))) (by decide) (backOf (W := 1) (rm5 l Z a0 hw [] sv d ps vs fr to h38 n0 Z38 A38 g_sv F_sv_dimension F_sv_positions F_sv_values F_sv_from F_sv_to) hZ (hw _ (List.mem_of_getElem? (i := 25) rfl)) (hw _ (List.mem_of_getElem? (i := 2) rfl)) (by decide) (by decide)) (g := (mkF m 10 #[.val (.int d), .val (.ref ps), .val (.ref vs), .val (.int fr), .val (.int to)] [(.int to), (.int fr), (.ref vs), (.ref ps), (.int d), (.ref sv), (.ref sv)])) rfl (by rw [hml]; rfl) (Steps.refl _) (a := sv) (argsL := [(.int d), (.ref ps), (.ref vs), (.int fr), (.int to)]) (rest := [(.ref sv)]) (lenOf pd_0 rfl) rfl (by show 2 * 0 + _ ≤ _; exact Nat.le_of_eq rfl) (hb hby d7_10) (fun _ _ => ⟨rfl, e38, (by decide : (0 + 1) + 0 ≤ _), (by decide : (0 + 5) + 0 ≤ _)⟩)
  dsimp only [Pt.U, Pt.locs, Pt.cells, Pt.slots] at X41 l41 y41 z41 st41 hQ41
  subst l41 y41 z41
  obtain ⟨rfl, Nq41, Kc41, hSV⟩ := hQ41
  have N41 := Fr.app N0 Nq41
  have r42 : Steps p.tables e below S0 (T41.setTop (mkF m 13 #[.val (.int d), .val (.ref ps), .val (.ref vs), .val (.int fr), .val (.int to)] [(.ref sv)])) := r40.trans st41
  have E41_sv := A38.keep Kc41
  have Z41 : n0 ≤ T41.heap.size := Nat.le_trans Z38 Kc41.1
  have K41 := K38.trans Kc41 (allS (Or.inr sz_sv) (all0))
  obtain ⟨fs, hr, hrun, hended, hW, hsame⟩ := X41.leave (v := some (.ref sv)) (fun h => by rw [Bd.returns] at h; cases h)
  refine ⟨_, _, pre0 _ ?_, hrun, hended, _, _, rfl, ?_, ⟨_, rfl⟩, hW, hsame.mono (by decide) (by decide)⟩
  · rw [← hS0]
    refine r42.trans ?_
    show Steps p.tables e below (T41.setTop (mkF m 13 #[.val (.int d), .val (.ref ps), .val (.ref vs), .val (.int fr), .val (.int to)] [(.ref sv)])) _
    jvm_step X41.here [X41.here.top, hx, (hb hby d7_13), X41.method', Bd.returns, Value.isRef, FieldType.isReference]
    first | (intro acts; rw [hr _ acts rfl rfl rfl]) | rw [hr _ _ rfl rfl rfl]
    exact Steps.refl _
  · exact ⟨sv, rfl, hSV, K41, Z41, N41⟩
theorem pn_4 : plainName "com/example/polytome/polytome/model/SparseVector" = true := by first | (simp [plainName, overriddenIn]; done) | decide +kernel
theorem ef_4 (m : MethodId) (x0 : Addr) : entryFrame m #[(.ref x0)] 3 = mkF m 0 #[.val (.ref x0), .unset, .unset] [] := by first | (simp [entryFrame, mkF, argsToLocals, Value.category]; done) | rfl
def QmT (Z : State) (po : Addr) (d : Int32) (ps : Addr) (vs : Addr) (fr : Int32) (to : Int32) (N : Nat) (fp : Nat → Int32) (fv : Nat → UInt64) (h0 : Heap) (n0 : Nat) (v : Option Value) (h : Heap) (L : List Loc) : Prop := ∃ b, v = some (.ref b) ∧ h0.size ≤ b ∧ Gar Z h b .double d.toNatClampNeg (fun i => .double (wrt fp fv fr.toNatClampNeg (to.toInt - fr.toInt).toNat i)) ∧ Keep h0 h [] ∧ Fr n0 L
set_option maxRecDepth 65536 in
set_option maxHeartbeats 40000000 in
theorem rmT (l : Launch) (Z : State) (a0 : Array Value) (hw : ∀ d ∈ tables_1, d.before a0 Z = true) (ws : List Jvm.Cond) (po : Addr) (d : Int32) (ps : Addr) (vs : Addr) (fr : Int32) (to : Int32) (N : Nat) (fp : Nat → Int32) (fv : Nat → UInt64) (h0 : Heap) (n0 : Nat) (Z0 : n0 ≤ h0.size) (hSV : SVf Z h0 po d ps vs fr to) (Gps : Gar Z h0 ps .int N (fun i => .int (fp i))) (Gvs : Gar Z h0 vs .double N (fun i => .double (fv i))) (hd : 0 ≤ d.toInt ∧ d.toInt ≤ 15) (hf : 0 ≤ fr.toInt ∧ fr.toInt ≤ to.toInt ∧ to.toInt ≤ (N : Int)) (hp : ∀ i : Nat, fr.toInt ≤ (i : Int) → (i : Int) < to.toInt → 0 ≤ (fp i).toInt ∧ (fp i).toInt < d.toInt) :
    MetFree l (⟨"com/example/polytome/polytome/model/SparseVector", "toArray", "()[D"⟩ : MethodName) (head1 (Jvm.Cond.code (⟨"com/example/polytome/polytome/model/SparseVector", "toArray", "()[D"⟩ : MethodName) prog_39_method_10_code 3 (some (.array .double)) :: ws) ({ frames := 0, cells := 1, slots := 15, locals := 0 } : Room)) (fun a U => a = #[(.ref po)] ∧ Z.Warmed39 U.vm ∧ U.heap = h0) (fun _ _ _ _ _ => True) (fun _ U o U' => ∃ v L, o = .returned v ∧ QmT Z po d ps vs fr to N fp fv h0 n0 v U'.heap L ∧ FrameEnd U o U' L ({ frames := 0, cells := 1, slots := 15, locals := 0 } : Room).cells ({ frames := 0, cells := 1, slots := 15, locals := 0 } : Room).slots) := by
  refine MetFree.of_bodySF (plainFor_of_name pn_4) hisR ?_
  intro p e s m args below meth c s₁ Bd hml0 hP hK
  obtain ⟨rfl, hZ, hh⟩ := hP
  have hx := Bd.exec
  have hby := Bd.bytes
  have hml : c.maxLocals = 3 := hml0
  have hown : s.vm.findClass "com/example/polytome/polytome/model/SparseVector" = some m.cls := findClass_of_methodNamed Bd.named
  have hnm := (name_of_methodNamed Bd.named Bd.method).1
  have X0 : Stand p l e ({ frames := 0, cells := 1, slots := 15, locals := 0 } : Room) s m #[(.ref po)] below meth c s₁ [] 0 0 := Stand.of_body Bd
  have e0 : s₁.heap = h0 := by rw [← hh, Bd.state]; rfl
  have N0 := Fr.nil n0
  have pre0 : ∀ t, Steps p.tables e below (s₁.setTop (mkF m 0 #[.val (.ref po), .unset, .unset] [])) t → Steps p.tables e below (s₁.setTop (entryFrame m #[(.ref po)] 3)) t := fun t_ k_ => castTop (ef_4 m po) k_
  obtain ⟨S0, hS0⟩ : ∃ z, z = s₁.setTop (mkF m 0 #[.val (.ref po), .unset, .unset] []) := ⟨_, rfl⟩
  have r0 : Steps p.tables e below S0 (s₁.setTop (mkF m 0 #[.val (.ref po), .unset, .unset] [])) := by rw [hS0]; exact Steps.refl _
  obtain ⟨Epo, F_dimension, F_positions, F_values, F_from, F_to⟩ := hSV
  obtain ⟨hd0, hd15⟩ := hd
  obtain ⟨hf0, hf1, hf2⟩ := hf
  have hdn := nn_of hd0
  have td := tn_of hd0
  have tf := tn_of hf0
  have K0 := Keep.refl h0 []
  have r43 : Steps p.tables e below S0 (s₁.setTop (mkF m 1 #[.val (.ref po), .unset, .unset] [(.ref po)])) := by
    refine r0.trans ?_
    show Steps p.tables e below (s₁.setTop (mkF m 0 #[.val (.ref po), .unset, .unset] [])) _
    refine XS.aloadN X0.here hx rfl (hb hby d4_0) rfl rfl ?_
    exact Steps.refl _
  obtain ⟨T44, X44, e44, st44⟩ := getF X0 hx hZ hown (host := "") (Or.inl (hw _ (List.mem_of_getElem? (i := 29) rfl))) Via.refl e0 F_dimension (g := (mkF m 1 #[.val (.ref po), .unset, .unset] [(.ref po)])) rfl rfl (hb hby d4_1)
  have r45 : Steps p.tables e below S0 (T44.setTop (mkF m 4 #[.val (.ref po), .unset, .unset] [(.int d)])) := r43.trans (st44 _ (Steps.refl _))
  obtain ⟨T46, h46, k46, X46, e46, E46, A46, st46⟩ := newP X44 hx hZ (hw _ (List.mem_of_getElem? (i := 4) rfl)) e44 (g := (mkF m 4 #[.val (.ref po), .unset, .unset] [(.int d)])) rfl (hb hby d4_4) rfl hdn (cap := 15) (by omega) (by decide) (by decide) (by decide)
  obtain ⟨b, g46⟩ : ∃ z, z = h0.size := ⟨_, rfl⟩
  rw [← g46] at A46 st46
  have ne_ps_b : ps ≠ b := Nat.ne_of_lt (by rw [g46]; exact Gps.lt)
  have ne_vs_b : vs ≠ b := Nat.ne_of_lt (by rw [g46]; exact Gvs.lt)
  have ne_po_b : po ≠ b := Nat.ne_of_lt (by rw [g46]; exact Epo.lt)
  have G_b : Gar Z h46 b .double (d).toNatClampNeg (fun _ => defaultValue .double) := Gar.new A46
  have g_b : n0 ≤ b := Nat.le_trans Z0 (Nat.le_of_eq g46.symm)
  have G46_ps := Gps.ext E46
  have G46_vs := Gvs.ext E46
  have F46_po_dimension := F_dimension.ext E46
  have F46_po_positions := F_positions.ext E46
  have F46_po_values := F_values.ext E46
  have F46_po_from := F_from.ext E46
  have F46_po_to := F_to.ext E46
  have E46_po := Epo.ext E46
  have Z46 : n0 ≤ h46.size := Nat.le_trans Z0 E46.1
  have K46 := K0.ext E46
  have r47 : Steps p.tables e below S0 (T46.setTop (mkF m 6 #[.val (.ref po), .unset, .unset] [(.ref b)])) := r45.trans (st46 _ (Steps.refl _))
  have sz_b : h0.size ≤ b := Nat.le_trans K0.1 (Nat.le_of_eq g46.symm)
  have r48 : Steps p.tables e below S0 (T46.setTop (mkF m 8 #[.val (.ref po), .val (.ref b), .unset] [(.ref po)])) := by
    refine r47.trans ?_
    show Steps p.tables e below (T46.setTop (mkF m 6 #[.val (.ref po), .unset, .unset] [(.ref b)])) _
    refine XS.astoreN X46.here hx rfl (hb hby d4_6) rfl rfl (l' := #[.val (.ref po), .val (.ref b), .unset]) rfl ?_
    show Steps p.tables e below (T46.setTop (mkF m 7 #[.val (.ref po), .val (.ref b), .unset] [])) _
    refine XS.aloadN X46.here hx rfl (hb hby d4_7) rfl rfl ?_
    exact Steps.refl _
  obtain ⟨T49, X49, e49, st49⟩ := getF X46 hx hZ hown (host := "") (Or.inl (hw _ (List.mem_of_getElem? (i := 35) rfl))) Via.refl e46 F46_po_from (g := (mkF m 8 #[.val (.ref po), .val (.ref b), .unset] [(.ref po)])) rfl rfl (hb hby d4_8)
  have r50 : Steps p.tables e below S0 (T49.setTop (mkF m 11 #[.val (.ref po), .val (.ref b), .unset] [(.int fr)])) := r48.trans (st49 _ (Steps.refl _))
  have r51 : Steps p.tables e below S0 (T49.setTop (mkF m 12 #[.val (.ref po), .val (.ref b), .val (.int fr)] [])) := by
    refine r50.trans ?_
    show Steps p.tables e below (T49.setTop (mkF m 11 #[.val (.ref po), .val (.ref b), .unset] [(.int fr)])) _
    refine XS.istoreN X49.here hx rfl (hb hby d4_11) rfl (l' := #[.val (.ref po), .val (.ref b), .val (.int fr)]) rfl ?_
    exact Steps.refl _
  have loop : ∀ (k : Nat) (T : State) (Lc : List Loc) (h : Heap) (n : Nat) (ei : Int32), Stand p l e ({ frames := 0, cells := 1, slots := 15, locals := 0 } : Room) s m #[(.ref po)] below meth c T Lc (0 + 1) (0 + 15) → T.heap = h → Fr n0 Lc → Exa Z h po "com/example/polytome/polytome/model/SparseVector" → Fld Z h po "com/example/polytome/polytome/model/SparseVector" "dimension" "I" (.int d) → Fld Z h po "com/example/polytome/polytome/model/SparseVector" "positions" "[I" (.ref ps) → Fld Z h po "com/example/polytome/polytome/model/SparseVector" "values" "[D" (.ref vs) → Fld Z h po "com/example/polytome/polytome/model/SparseVector" "to" "I" (.int to) → Gar Z h ps .int N (fun i => .int (fp i)) → Gar Z h vs .double N (fun i => .double (fv i)) → Gar Z h b .double d.toNatClampNeg (fun i => .double (wrt fp fv fr.toNatClampNeg n i)) → Keep h0 h [] → n0 ≤ h.size → ei.toInt = fr.toInt + (n : Int) → (n : Int) + (k : Int) = to.toInt - fr.toInt → ∃ (T' : State) (L' : List Loc) (h' : Heap) (z2 : Int32), Stand p l e ({ frames := 0, cells := 1, slots := 15, locals := 0 } : Room) s m #[(.ref po)] below meth c T' L' (0 + 1) (0 + 15) ∧ T'.heap = h' ∧ Fr n0 L' ∧ Gar Z h' b .double d.toNatClampNeg (fun i => .double (wrt fp fv fr.toNatClampNeg (to.toInt - fr.toInt).toNat i)) ∧ Keep h0 h' [] ∧ Steps p.tables e below (T.setTop (mkF m 12 #[.val (.ref po), .val (.ref b), .val (.int ei)] [])) (T'.setTop (mkF m 40 #[.val (.ref po), .val (.ref b), .val (.int z2)] [])) := by
    intro k
    induction k with
    | zero =>
      intro T Lc h n ei Xl el Nl Ea Fd_ Fp_ Fv_ Ft_ Gp_ Gv_ Gb_ Kl Zl h1 h2
      have q0 : Steps p.tables e below (T.setTop (mkF m 12 #[.val (.ref po), .val (.ref b), .val (.int ei)] [])) (T.setTop (mkF m 12 #[.val (.ref po), .val (.ref b), .val (.int ei)] [])) := Steps.refl _
      have hge : ¬ ei < to := fun q => by have := Int32.lt_iff_toInt_lt.mp q; omega
      have en : n = (to.toInt - fr.toInt).toNat := by omega
      have r52 : Steps p.tables e below (T.setTop (mkF m 12 #[.val (.ref po), .val (.ref b), .val (.int ei)] [])) (T.setTop (mkF m 14 #[.val (.ref po), .val (.ref b), .val (.int ei)] [(.ref po), (.int ei)])) := by
        refine q0.trans ?_
        show Steps p.tables e below (T.setTop (mkF m 12 #[.val (.ref po), .val (.ref b), .val (.int ei)] [])) _
        refine XS.iloadN Xl.here hx rfl (hb hby d4_12) rfl ?_
        show Steps p.tables e below (T.setTop (mkF m 13 #[.val (.ref po), .val (.ref b), .val (.int ei)] [(.int ei)])) _
        refine XS.aloadN Xl.here hx rfl (hb hby d4_13) rfl rfl ?_
        exact Steps.refl _
      obtain ⟨T53, X53, e53, st53⟩ := getF Xl hx hZ hown (host := "") (Or.inl (hw _ (List.mem_of_getElem? (i := 37) rfl))) Via.refl el Ft_ (g := (mkF m 14 #[.val (.ref po), .val (.ref b), .val (.int ei)] [(.ref po), (.int ei)])) rfl rfl (hb hby d4_14)
      have r54 : Steps p.tables e below (T.setTop (mkF m 12 #[.val (.ref po), .val (.ref b), .val (.int ei)] [])) (T53.setTop (mkF m 17 #[.val (.ref po), .val (.ref b), .val (.int ei)] [(.int to), (.int ei)])) := r52.trans (st53 _ (Steps.refl _))
      have r55 : Steps p.tables e below (T.setTop (mkF m 12 #[.val (.ref po), .val (.ref b), .val (.int ei)] [])) (T53.setTop (mkF m 40 #[.val (.ref po), .val (.ref b), .val (.int ei)] [])) := by
        refine r54.trans ?_
        show Steps p.tables e below (T53.setTop (mkF m 17 #[.val (.ref po), .val (.ref b), .val (.int ei)] [(.int to), (.int ei)])) _
        refine XS.icmpYes X53.here hx rfl (pc0 := 17) (pc' := 40) rfl (hb hby d4_17) rfl (flt hge).2.1 (by decide) (by decide) ?_
        exact Steps.refl _
      exact ⟨T53, Lc, h, ei, X53, e53, Nl, by rw [← en]; exact Gb_, Kl, r55⟩
    | succ k ih =>
      intro T Lc h n ei Xl el Nl Ea Fd_ Fp_ Fv_ Ft_ Gp_ Gv_ Gb_ Kl Zl h1 h2
      have q0 : Steps p.tables e below (T.setTop (mkF m 12 #[.val (.ref po), .val (.ref b), .val (.int ei)] [])) (T.setTop (mkF m 12 #[.val (.ref po), .val (.ref b), .val (.int ei)] [])) := Steps.refl _
      have hlt : ei < to := Int32.lt_iff_toInt_lt.mpr (by omega)
      have hn := nn_of (x := ei) (by omega)
      have te := tn_of (x := ei) (by omega)
      have hbp := hp ei.toNatClampNeg (by omega) (by omega)
      have hp0 := nn_of hbp.1
      have tp := tn_of hbp.1
      have en : ei.toNatClampNeg = fr.toNatClampNeg + n := by omega
      have e1 : (ei + (1 : Int32)).toInt = ei.toInt + 1 := by have q := c_iadd ei 1; have := rng32 (ei + (1 : Int32)); have := rng32 to; rw [show (1 : Int32).toInt = 1 by decide] at q; omega
      have nb1 : ps ≠ b := ne_ps_b
      have nb2 : vs ≠ b := ne_vs_b
      have nb3 : po ≠ b := ne_po_b
      have r56 : Steps p.tables e below (T.setTop (mkF m 12 #[.val (.ref po), .val (.ref b), .val (.int ei)] [])) (T.setTop (mkF m 14 #[.val (.ref po), .val (.ref b), .val (.int ei)] [(.ref po), (.int ei)])) := by
        refine q0.trans ?_
        show Steps p.tables e below (T.setTop (mkF m 12 #[.val (.ref po), .val (.ref b), .val (.int ei)] [])) _
        refine XS.iloadN Xl.here hx rfl (hb hby d4_12) rfl ?_
        show Steps p.tables e below (T.setTop (mkF m 13 #[.val (.ref po), .val (.ref b), .val (.int ei)] [(.int ei)])) _
        refine XS.aloadN Xl.here hx rfl (hb hby d4_13) rfl rfl ?_
        exact Steps.refl _
      obtain ⟨T57, X57, e57, st57⟩ := getF Xl hx hZ hown (host := "") (Or.inl (hw _ (List.mem_of_getElem? (i := 37) rfl))) Via.refl el Ft_ (g := (mkF m 14 #[.val (.ref po), .val (.ref b), .val (.int ei)] [(.ref po), (.int ei)])) rfl rfl (hb hby d4_14)
      have r58 : Steps p.tables e below (T.setTop (mkF m 12 #[.val (.ref po), .val (.ref b), .val (.int ei)] [])) (T57.setTop (mkF m 17 #[.val (.ref po), .val (.ref b), .val (.int ei)] [(.int to), (.int ei)])) := r56.trans (st57 _ (Steps.refl _))
      have r59 : Steps p.tables e below (T.setTop (mkF m 12 #[.val (.ref po), .val (.ref b), .val (.int ei)] [])) (T57.setTop (mkF m 22 #[.val (.ref po), .val (.ref b), .val (.int ei)] [(.ref po), (.ref b)])) := by
        refine r58.trans ?_
        show Steps p.tables e below (T57.setTop (mkF m 17 #[.val (.ref po), .val (.ref b), .val (.int ei)] [(.int to), (.int ei)])) _
        refine XS.icmpNo X57.here hx rfl (hb hby d4_17) rfl (tlt hlt).2.1 ?_
        show Steps p.tables e below (T57.setTop (mkF m 20 #[.val (.ref po), .val (.ref b), .val (.int ei)] [])) _
        refine XS.aloadN X57.here hx rfl (hb hby d4_20) rfl rfl ?_
        show Steps p.tables e below (T57.setTop (mkF m 21 #[.val (.ref po), .val (.ref b), .val (.int ei)] [(.ref b)])) _
        refine XS.aloadN X57.here hx rfl (hb hby d4_21) rfl rfl ?_
        exact Steps.refl _
      obtain ⟨T60, X60, e60, st60⟩ := getF X57 hx hZ hown (host := "") (Or.inl (hw _ (List.mem_of_getElem? (i := 31) rfl))) Via.refl e57 Fp_ (g := (mkF m 22 #[.val (.ref po), .val (.ref b), .val (.int ei)] [(.ref po), (.ref b)])) rfl rfl (hb hby d4_22)
      have r61 : Steps p.tables e below (T.setTop (mkF m 12 #[.val (.ref po), .val (.ref b), .val (.int ei)] [])) (T60.setTop (mkF m 25 #[.val (.ref po), .val (.ref b), .val (.int ei)] [(.ref ps), (.ref b)])) := r59.trans (st60 _ (Steps.refl _))
      have r62 : Steps p.tables e below (T.setTop (mkF m 12 #[.val (.ref po), .val (.ref b), .val (.int ei)] [])) (T60.setTop (mkF m 28 #[.val (.ref po), .val (.ref b), .val (.int ei)] [(.ref po), (.int (fp ei.toNatClampNeg)), (.ref b)])) := by
        refine r61.trans ?_
        show Steps p.tables e below (T60.setTop (mkF m 25 #[.val (.ref po), .val (.ref b), .val (.int ei)] [(.ref ps), (.ref b)])) _
        refine XS.iloadN X60.here hx rfl (hb hby d4_25) rfl ?_
        show Steps p.tables e below (T60.setTop (mkF m 26 #[.val (.ref po), .val (.ref b), .val (.int ei)] [(.int ei), (.ref ps), (.ref b)])) _
        refine ldI X60 hx hZ e60 Gp_ (j := ei) hn (by omega) (v := (.int (fp ei.toNatClampNeg))) rfl (g := (mkF m 26 #[.val (.ref po), .val (.ref b), .val (.int ei)] [(.int ei), (.ref ps), (.ref b)])) rfl rfl (hb hby d4_26) _ ?_
        show Steps p.tables e below (T60.setTop (mkF m 27 #[.val (.ref po), .val (.ref b), .val (.int ei)] [(.int (fp ei.toNatClampNeg)), (.ref b)])) _
        refine XS.aloadN X60.here hx rfl (hb hby d4_27) rfl rfl ?_
        exact Steps.refl _
      obtain ⟨T63, X63, e63, st63⟩ := getF X60 hx hZ hown (host := "") (Or.inl (hw _ (List.mem_of_getElem? (i := 33) rfl))) Via.refl e60 Fv_ (g := (mkF m 28 #[.val (.ref po), .val (.ref b), .val (.int ei)] [(.ref po), (.int (fp ei.toNatClampNeg)), (.ref b)])) rfl rfl (hb hby d4_28)
      have r64 : Steps p.tables e below (T.setTop (mkF m 12 #[.val (.ref po), .val (.ref b), .val (.int ei)] [])) (T63.setTop (mkF m 31 #[.val (.ref po), .val (.ref b), .val (.int ei)] [(.ref vs), (.int (fp ei.toNatClampNeg)), (.ref b)])) := r62.trans (st63 _ (Steps.refl _))
      have r65 : Steps p.tables e below (T.setTop (mkF m 12 #[.val (.ref po), .val (.ref b), .val (.int ei)] [])) (T63.setTop (mkF m 33 #[.val (.ref po), .val (.ref b), .val (.int ei)] [(.double (fv ei.toNatClampNeg)), (.int (fp ei.toNatClampNeg)), (.ref b)])) := by
        refine r64.trans ?_
        show Steps p.tables e below (T63.setTop (mkF m 31 #[.val (.ref po), .val (.ref b), .val (.int ei)] [(.ref vs), (.int (fp ei.toNatClampNeg)), (.ref b)])) _
        refine XS.iloadN X63.here hx rfl (hb hby d4_31) rfl ?_
        show Steps p.tables e below (T63.setTop (mkF m 32 #[.val (.ref po), .val (.ref b), .val (.int ei)] [(.int ei), (.ref vs), (.int (fp ei.toNatClampNeg)), (.ref b)])) _
        refine ldD X63 hx hZ e63 Gv_ (j := ei) hn (by omega) (v := (.double (fv ei.toNatClampNeg))) rfl (g := (mkF m 32 #[.val (.ref po), .val (.ref b), .val (.int ei)] [(.int ei), (.ref vs), (.int (fp ei.toNatClampNeg)), (.ref b)])) rfl rfl (hb hby d4_32) _ ?_
        exact Steps.refl _
      obtain ⟨T66, h66, X66, e66, W66, st66⟩ := stDG X63 hx hZ e63 Gb_ (j := (fp ei.toNatClampNeg)) hp0 (by omega) (g := (mkF m 33 #[.val (.ref po), .val (.ref b), .val (.int ei)] [(.double (fv ei.toNatClampNeg)), (.int (fp ei.toNatClampNeg)), (.ref b)])) rfl rfl (hb hby d4_33)
      have N66 := Fr.snoc X66 Nl g_b
      have G66_ps := Gp_.other W66 nb1
      have G66_vs := Gv_.other W66 nb2
      have G66_b := Gb_.set W66
      have F66_po_dimension := Fd_.other W66 (Or.inl nb3)
      have F66_po_positions := Fp_.other W66 (Or.inl nb3)
      have F66_po_values := Fv_.other W66 (Or.inl nb3)
      have F66_po_to := Ft_.other W66 (Or.inl nb3)
      have E66_po := Ea.wr W66
      have Z66 : n0 ≤ h66.size := Nat.le_trans Zl (Nat.le_of_eq W66.size.symm)
      have K66 := Kl.wr W66 (Or.inr sz_b)
      have r67 : Steps p.tables e below (T.setTop (mkF m 12 #[.val (.ref po), .val (.ref b), .val (.int ei)] [])) (T66.setTop (mkF m 34 #[.val (.ref po), .val (.ref b), .val (.int ei)] [])) := r65.trans (st66 _ (Steps.refl _))
      have r68 : Steps p.tables e below (T.setTop (mkF m 12 #[.val (.ref po), .val (.ref b), .val (.int ei)] [])) (T66.setTop (mkF m 12 #[.val (.ref po), .val (.ref b), .val (.int (ei + (1 : Int32)))] [])) := by
        refine r67.trans ?_
        show Steps p.tables e below (T66.setTop (mkF m 34 #[.val (.ref po), .val (.ref b), .val (.int ei)] [])) _
        refine XS.iinc X66.here hx rfl (hb hby d4_34) rfl (l' := #[.val (.ref po), .val (.ref b), .val (.int (ei + (1 : Int32)))]) rfl ?_
        show Steps p.tables e below (T66.setTop (mkF m 37 #[.val (.ref po), .val (.ref b), .val (.int (ei + (1 : Int32)))] [])) _
        refine XS.goto X66.here hx rfl (pc0 := 37) (pc' := 12) rfl (hb hby d4_37) (by decide) (by decide) ?_
        exact Steps.refl _
      have Gb2 : Gar Z h66 b .double d.toNatClampNeg (fun i => .double (wrt fp fv fr.toNatClampNeg (n + 1) i)) := G66_b.congr (fun i _ => by
          show (if i = (fp ei.toNatClampNeg).toNatClampNeg then Value.double (fv ei.toNatClampNeg) else .double (wrt fp fv fr.toNatClampNeg n i)) = .double (if i = (fp (fr.toNatClampNeg + n)).toNatClampNeg then fv (fr.toNatClampNeg + n) else wrt fp fv fr.toNatClampNeg n i)
          rw [en]; split <;> rfl)
      obtain ⟨T', L', h', z2, j1, j2, j3, j4, j5, j6⟩ := ih T66 _ h66 (n + 1) (ei + (1 : Int32)) X66 e66 N66 E66_po F66_po_dimension F66_po_positions F66_po_values F66_po_to G66_ps G66_vs Gb2 K66 Z66 (by omega) (by omega)
      exact ⟨T', L', h', z2, j1, j2, j3, j4, j5, r68.trans j6⟩
  obtain ⟨T', L', h', z2, j1, j2, j3, j4, j5, j6⟩ := loop (to.toInt - fr.toInt).toNat T49 _ h46 0 fr X49 e49 N0 E46_po F46_po_dimension F46_po_positions F46_po_values F46_po_to G46_ps G46_vs (G_b.congr (fun i _ => rfl)) K46 Z46 (by omega) (by omega)
  have r69 : Steps p.tables e below S0 (T'.setTop (mkF m 40 #[.val (.ref po), .val (.ref b), .val (.int z2)] [])) := r51.trans j6
  have r70 : Steps p.tables e below S0 (T'.setTop (mkF m 41 #[.val (.ref po), .val (.ref b), .val (.int z2)] [(.ref b)])) := by
    refine r69.trans ?_
    show Steps p.tables e below (T'.setTop (mkF m 40 #[.val (.ref po), .val (.ref b), .val (.int z2)] [])) _
    refine XS.aloadN j1.here hx rfl (hb hby d4_40) rfl rfl ?_
    exact Steps.refl _
  obtain ⟨fs, hr, hrun, hended, hW, hsame⟩ := j1.leave (v := some (.ref b)) (fun h => by rw [Bd.returns] at h; cases h)
  refine ⟨_, _, pre0 _ ?_, hrun, hended, _, _, rfl, ?_, ⟨_, rfl⟩, hW, hsame.mono (by decide) (by decide)⟩
  · rw [← hS0]
    refine r70.trans ?_
    show Steps p.tables e below (T'.setTop (mkF m 41 #[.val (.ref po), .val (.ref b), .val (.int z2)] [(.ref b)])) _
    jvm_step j1.here [j1.here.top, hx, (hb hby d4_41), j1.method', Bd.returns, Value.isRef, FieldType.isReference]
    first | (intro acts; rw [hr _ acts rfl rfl rfl]) | rw [hr _ _ rfl rfl rfl]
    exact Steps.refl _
  · show QmT Z po d ps vs fr to N fp fv h0 n0 _ T'.heap _; rw [j2]; exact ⟨b, rfl, sz_b, j4, j5, j3⟩
theorem pn_6 : plainName "com/example/polytome/polytome/model/SparseVectorToArrayPinLaw" = true := by first | (simp [plainName, overriddenIn]; done) | decide +kernel
theorem ef_6 (m : MethodId) (x0 : Int32) (x1 : Int32) (x2 : Int32) (x3 : Int32) (x4 : Int32) (x5 : UInt64) (x6 : UInt64) (x7 : UInt64) : entryFrame m #[(.int x0), (.int x1), (.int x2), (.int x3), (.int x4), (.double x5), (.double x6), (.double x7)] 11 = mkF m 0 #[.val (.int x0), .val (.int x1), .val (.int x2), .val (.int x3), .val (.int x4), .val (.double x5), .second, .val (.double x6), .second, .val (.double x7), .second] [] := by first | (simp [entryFrame, mkF, argsToLocals, Value.category]; done) | rfl
def QmE (Z : State) (i : Int32) (k : Int32) (p0 : Int32) (p1 : Int32) (p2 : Int32) (v0 : UInt64) (v1 : UInt64) (v2 : UInt64)  (h0 : Heap) (n0 : Nat) (v : Option Value) (h : Heap) (L : List Loc) : Prop := v = some (.double (own_e i k p0 p1 p2 v0 v1 v2)) ∧ Fr n0 L ∧ h = h0
set_option maxRecDepth 65536 in
set_option maxHeartbeats 40000000 in
theorem rmE (l : Launch) (Z : State) (a0 : Array Value) (hw : ∀ d ∈ tables_1, d.before a0 Z = true) (ws : List Jvm.Cond) (i : Int32) (k : Int32) (p0 : Int32) (p1 : Int32) (p2 : Int32) (v0 : UInt64) (v1 : UInt64) (v2 : UInt64)  (h0 : Heap) (n0 : Nat) (Z0 : n0 ≤ h0.size)  :
    MetFree l (⟨"com/example/polytome/polytome/model/SparseVectorToArrayPinLaw", "expected", "(IIIIIDDD)D"⟩ : MethodName) (head1 (Jvm.Cond.code (⟨"com/example/polytome/polytome/model/SparseVectorToArrayPinLaw", "expected", "(IIIIIDDD)D"⟩ : MethodName) method_3_code 11 (some .double) :: ws) ({ frames := 0, cells := 0, slots := 0, locals := 0 } : Room)) (fun a U => a = #[(.int i), (.int k), (.int p0), (.int p1), (.int p2), (.double v0), (.double v1), (.double v2)] ∧ Z.Warmed39 U.vm ∧ U.heap = h0) (fun _ _ _ _ _ => True) (fun _ U o U' => ∃ v L, o = .returned v ∧ QmE Z i k p0 p1 p2 v0 v1 v2 h0 n0 v U'.heap L ∧ FrameEnd U o U' L ({ frames := 0, cells := 0, slots := 0, locals := 0 } : Room).cells ({ frames := 0, cells := 0, slots := 0, locals := 0 } : Room).slots) := by
  refine MetFree.of_bodySF (plainFor_of_name pn_6) hisR ?_
  intro p e s m args below meth c s₁ Bd hml0 hP hK
  obtain ⟨rfl, hZ, hh⟩ := hP
  have hx := Bd.exec
  have hby := Bd.bytes
  have hml : c.maxLocals = 11 := hml0
  have hown : s.vm.findClass "com/example/polytome/polytome/model/SparseVectorToArrayPinLaw" = some m.cls := findClass_of_methodNamed Bd.named
  have hnm := (name_of_methodNamed Bd.named Bd.method).1
  have X0 : Stand p l e ({ frames := 0, cells := 0, slots := 0, locals := 0 } : Room) s m #[(.int i), (.int k), (.int p0), (.int p1), (.int p2), (.double v0), (.double v1), (.double v2)] below meth c s₁ [] 0 0 := Stand.of_body Bd
  have e0 : s₁.heap = h0 := by rw [← hh, Bd.state]; rfl
  have N0 := Fr.nil n0
  have pre0 : ∀ t, Steps p.tables e below (s₁.setTop (mkF m 0 #[.val (.int i), .val (.int k), .val (.int p0), .val (.int p1), .val (.int p2), .val (.double v0), .second, .val (.double v1), .second, .val (.double v2), .second] [])) t → Steps p.tables e below (s₁.setTop (entryFrame m #[(.int i), (.int k), (.int p0), (.int p1), (.int p2), (.double v0), (.double v1), (.double v2)] 11)) t := fun t_ k_ => castTop (ef_6 m i k p0 p1 p2 v0 v1 v2) k_
  obtain ⟨S0, hS0⟩ : ∃ z, z = s₁.setTop (mkF m 0 #[.val (.int i), .val (.int k), .val (.int p0), .val (.int p1), .val (.int p2), .val (.double v0), .second, .val (.double v1), .second, .val (.double v2), .second] []) := ⟨_, rfl⟩
  have r0 : Steps p.tables e below S0 (s₁.setTop (mkF m 0 #[.val (.int i), .val (.int k), .val (.int p0), .val (.int p1), .val (.int p2), .val (.double v0), .second, .val (.double v1), .second, .val (.double v2), .second] [])) := by rw [hS0]; exact Steps.refl _
  by_cases hh0 : ¬ k < (1 : Int32) ∧ i = p0
  · skip
    have r71 : Steps p.tables e below S0 (s₁.setTop (mkF m 12 #[.val (.int i), .val (.int k), .val (.int p0), .val (.int p1), .val (.int p2), .val (.double v0), .second, .val (.double v1), .second, .val (.double v2), .second] [(.double v0)])) := by
      refine r0.trans ?_
      show Steps p.tables e below (s₁.setTop (mkF m 0 #[.val (.int i), .val (.int k), .val (.int p0), .val (.int p1), .val (.int p2), .val (.double v0), .second, .val (.double v1), .second, .val (.double v2), .second] [])) _
      refine XS.iloadN X0.here hx rfl (hb hby d6_0) rfl ?_
      show Steps p.tables e below (s₁.setTop (mkF m 1 #[.val (.int i), .val (.int k), .val (.int p0), .val (.int p1), .val (.int p2), .val (.double v0), .second, .val (.double v1), .second, .val (.double v2), .second] [(.int k)])) _
      refine XS.iconst X0.here hx rfl (hb hby d6_1) ?_
      show Steps p.tables e below (s₁.setTop (mkF m 2 #[.val (.int i), .val (.int k), .val (.int p0), .val (.int p1), .val (.int p2), .val (.double v0), .second, .val (.double v1), .second, .val (.double v2), .second] [(.int (1 : Int32)), (.int k)])) _
      refine XS.icmpNo X0.here hx rfl (hb hby d6_2) rfl (flt hh0.1).1 ?_
      show Steps p.tables e below (s₁.setTop (mkF m 5 #[.val (.int i), .val (.int k), .val (.int p0), .val (.int p1), .val (.int p2), .val (.double v0), .second, .val (.double v1), .second, .val (.double v2), .second] [])) _
      refine XS.iloadN X0.here hx rfl (hb hby d6_5) rfl ?_
      show Steps p.tables e below (s₁.setTop (mkF m 6 #[.val (.int i), .val (.int k), .val (.int p0), .val (.int p1), .val (.int p2), .val (.double v0), .second, .val (.double v1), .second, .val (.double v2), .second] [(.int i)])) _
      refine XS.iloadN X0.here hx rfl (hb hby d6_6) rfl ?_
      show Steps p.tables e below (s₁.setTop (mkF m 7 #[.val (.int i), .val (.int k), .val (.int p0), .val (.int p1), .val (.int p2), .val (.double v0), .second, .val (.double v1), .second, .val (.double v2), .second] [(.int p0), (.int i)])) _
      refine XS.icmpNo X0.here hx rfl (hb hby d6_7) rfl (teq hh0.2).2 ?_
      show Steps p.tables e below (s₁.setTop (mkF m 10 #[.val (.int i), .val (.int k), .val (.int p0), .val (.int p1), .val (.int p2), .val (.double v0), .second, .val (.double v1), .second, .val (.double v2), .second] [])) _
      refine XS.dload X0.here hx rfl (hb hby d6_10) rfl ?_
      exact Steps.refl _
    obtain ⟨fs, hr, hrun, hended, hW, hsame⟩ := X0.leave (v := some (.double v0)) (fun h => by rw [Bd.returns] at h; cases h)
    refine ⟨_, _, pre0 _ ?_, hrun, hended, _, _, rfl, ?_, ⟨_, rfl⟩, hW, hsame.mono (by decide) (by decide)⟩
    · rw [← hS0]
      refine r71.trans ?_
      show Steps p.tables e below (s₁.setTop (mkF m 12 #[.val (.int i), .val (.int k), .val (.int p0), .val (.int p1), .val (.int p2), .val (.double v0), .second, .val (.double v1), .second, .val (.double v2), .second] [(.double v0)])) _
      exact retD X0 hx Bd.returns (hb hby d6_12) hr
    · exact ⟨by rw [own_e, if_pos hh0], N0, e0⟩
  · skip
    have r72 : Steps p.tables e below S0 (s₁.setTop (mkF m 13 #[.val (.int i), .val (.int k), .val (.int p0), .val (.int p1), .val (.int p2), .val (.double v0), .second, .val (.double v1), .second, .val (.double v2), .second] [])) := by
      by_cases hc0 : k < (1 : Int32)
      · skip
        have r73 : Steps p.tables e below S0 (s₁.setTop (mkF m 13 #[.val (.int i), .val (.int k), .val (.int p0), .val (.int p1), .val (.int p2), .val (.double v0), .second, .val (.double v1), .second, .val (.double v2), .second] [])) := by
          refine r0.trans ?_
          show Steps p.tables e below (s₁.setTop (mkF m 0 #[.val (.int i), .val (.int k), .val (.int p0), .val (.int p1), .val (.int p2), .val (.double v0), .second, .val (.double v1), .second, .val (.double v2), .second] [])) _
          refine XS.iloadN X0.here hx rfl (hb hby d6_0) rfl ?_
          show Steps p.tables e below (s₁.setTop (mkF m 1 #[.val (.int i), .val (.int k), .val (.int p0), .val (.int p1), .val (.int p2), .val (.double v0), .second, .val (.double v1), .second, .val (.double v2), .second] [(.int k)])) _
          refine XS.iconst X0.here hx rfl (hb hby d6_1) ?_
          show Steps p.tables e below (s₁.setTop (mkF m 2 #[.val (.int i), .val (.int k), .val (.int p0), .val (.int p1), .val (.int p2), .val (.double v0), .second, .val (.double v1), .second, .val (.double v2), .second] [(.int (1 : Int32)), (.int k)])) _
          refine XS.icmpYes X0.here hx rfl (pc0 := 2) (pc' := 13) rfl (hb hby d6_2) rfl (tlt hc0).1 (by decide) (by decide) ?_
          exact Steps.refl _
        exact r73
      · skip
        have r74 : Steps p.tables e below S0 (s₁.setTop (mkF m 13 #[.val (.int i), .val (.int k), .val (.int p0), .val (.int p1), .val (.int p2), .val (.double v0), .second, .val (.double v1), .second, .val (.double v2), .second] [])) := by
          refine r0.trans ?_
          show Steps p.tables e below (s₁.setTop (mkF m 0 #[.val (.int i), .val (.int k), .val (.int p0), .val (.int p1), .val (.int p2), .val (.double v0), .second, .val (.double v1), .second, .val (.double v2), .second] [])) _
          refine XS.iloadN X0.here hx rfl (hb hby d6_0) rfl ?_
          show Steps p.tables e below (s₁.setTop (mkF m 1 #[.val (.int i), .val (.int k), .val (.int p0), .val (.int p1), .val (.int p2), .val (.double v0), .second, .val (.double v1), .second, .val (.double v2), .second] [(.int k)])) _
          refine XS.iconst X0.here hx rfl (hb hby d6_1) ?_
          show Steps p.tables e below (s₁.setTop (mkF m 2 #[.val (.int i), .val (.int k), .val (.int p0), .val (.int p1), .val (.int p2), .val (.double v0), .second, .val (.double v1), .second, .val (.double v2), .second] [(.int (1 : Int32)), (.int k)])) _
          refine XS.icmpNo X0.here hx rfl (hb hby d6_2) rfl (flt hc0).1 ?_
          show Steps p.tables e below (s₁.setTop (mkF m 5 #[.val (.int i), .val (.int k), .val (.int p0), .val (.int p1), .val (.int p2), .val (.double v0), .second, .val (.double v1), .second, .val (.double v2), .second] [])) _
          refine XS.iloadN X0.here hx rfl (hb hby d6_5) rfl ?_
          show Steps p.tables e below (s₁.setTop (mkF m 6 #[.val (.int i), .val (.int k), .val (.int p0), .val (.int p1), .val (.int p2), .val (.double v0), .second, .val (.double v1), .second, .val (.double v2), .second] [(.int i)])) _
          refine XS.iloadN X0.here hx rfl (hb hby d6_6) rfl ?_
          show Steps p.tables e below (s₁.setTop (mkF m 7 #[.val (.int i), .val (.int k), .val (.int p0), .val (.int p1), .val (.int p2), .val (.double v0), .second, .val (.double v1), .second, .val (.double v2), .second] [(.int p0), (.int i)])) _
          refine XS.icmpYes X0.here hx rfl (pc0 := 7) (pc' := 13) rfl (hb hby d6_7) rfl (feq (fun z => hh0 ⟨hc0, z⟩)).2 (by decide) (by decide) ?_
          exact Steps.refl _
        exact r74
    by_cases hh1 : ¬ k < (2 : Int32) ∧ i = p1
    · skip
      have r75 : Steps p.tables e below S0 (s₁.setTop (mkF m 25 #[.val (.int i), .val (.int k), .val (.int p0), .val (.int p1), .val (.int p2), .val (.double v0), .second, .val (.double v1), .second, .val (.double v2), .second] [(.double v1)])) := by
        refine r72.trans ?_
        show Steps p.tables e below (s₁.setTop (mkF m 13 #[.val (.int i), .val (.int k), .val (.int p0), .val (.int p1), .val (.int p2), .val (.double v0), .second, .val (.double v1), .second, .val (.double v2), .second] [])) _
        refine XS.iloadN X0.here hx rfl (hb hby d6_13) rfl ?_
        show Steps p.tables e below (s₁.setTop (mkF m 14 #[.val (.int i), .val (.int k), .val (.int p0), .val (.int p1), .val (.int p2), .val (.double v0), .second, .val (.double v1), .second, .val (.double v2), .second] [(.int k)])) _
        refine XS.iconst X0.here hx rfl (hb hby d6_14) ?_
        show Steps p.tables e below (s₁.setTop (mkF m 15 #[.val (.int i), .val (.int k), .val (.int p0), .val (.int p1), .val (.int p2), .val (.double v0), .second, .val (.double v1), .second, .val (.double v2), .second] [(.int (2 : Int32)), (.int k)])) _
        refine XS.icmpNo X0.here hx rfl (hb hby d6_15) rfl (flt hh1.1).1 ?_
        show Steps p.tables e below (s₁.setTop (mkF m 18 #[.val (.int i), .val (.int k), .val (.int p0), .val (.int p1), .val (.int p2), .val (.double v0), .second, .val (.double v1), .second, .val (.double v2), .second] [])) _
        refine XS.iloadN X0.here hx rfl (hb hby d6_18) rfl ?_
        show Steps p.tables e below (s₁.setTop (mkF m 19 #[.val (.int i), .val (.int k), .val (.int p0), .val (.int p1), .val (.int p2), .val (.double v0), .second, .val (.double v1), .second, .val (.double v2), .second] [(.int i)])) _
        refine XS.iloadN X0.here hx rfl (hb hby d6_19) rfl ?_
        show Steps p.tables e below (s₁.setTop (mkF m 20 #[.val (.int i), .val (.int k), .val (.int p0), .val (.int p1), .val (.int p2), .val (.double v0), .second, .val (.double v1), .second, .val (.double v2), .second] [(.int p1), (.int i)])) _
        refine XS.icmpNo X0.here hx rfl (hb hby d6_20) rfl (teq hh1.2).2 ?_
        show Steps p.tables e below (s₁.setTop (mkF m 23 #[.val (.int i), .val (.int k), .val (.int p0), .val (.int p1), .val (.int p2), .val (.double v0), .second, .val (.double v1), .second, .val (.double v2), .second] [])) _
        refine XS.dload X0.here hx rfl (hb hby d6_23) rfl ?_
        exact Steps.refl _
      obtain ⟨fs, hr, hrun, hended, hW, hsame⟩ := X0.leave (v := some (.double v1)) (fun h => by rw [Bd.returns] at h; cases h)
      refine ⟨_, _, pre0 _ ?_, hrun, hended, _, _, rfl, ?_, ⟨_, rfl⟩, hW, hsame.mono (by decide) (by decide)⟩
      · rw [← hS0]
        refine r75.trans ?_
        show Steps p.tables e below (s₁.setTop (mkF m 25 #[.val (.int i), .val (.int k), .val (.int p0), .val (.int p1), .val (.int p2), .val (.double v0), .second, .val (.double v1), .second, .val (.double v2), .second] [(.double v1)])) _
        exact retD X0 hx Bd.returns (hb hby d6_25) hr
      · exact ⟨by rw [own_e, if_neg hh0, if_pos hh1], N0, e0⟩
    · skip
      have r76 : Steps p.tables e below S0 (s₁.setTop (mkF m 26 #[.val (.int i), .val (.int k), .val (.int p0), .val (.int p1), .val (.int p2), .val (.double v0), .second, .val (.double v1), .second, .val (.double v2), .second] [])) := by
        by_cases hc1 : k < (2 : Int32)
        · skip
          have r77 : Steps p.tables e below S0 (s₁.setTop (mkF m 26 #[.val (.int i), .val (.int k), .val (.int p0), .val (.int p1), .val (.int p2), .val (.double v0), .second, .val (.double v1), .second, .val (.double v2), .second] [])) := by
            refine r72.trans ?_
            show Steps p.tables e below (s₁.setTop (mkF m 13 #[.val (.int i), .val (.int k), .val (.int p0), .val (.int p1), .val (.int p2), .val (.double v0), .second, .val (.double v1), .second, .val (.double v2), .second] [])) _
            refine XS.iloadN X0.here hx rfl (hb hby d6_13) rfl ?_
            show Steps p.tables e below (s₁.setTop (mkF m 14 #[.val (.int i), .val (.int k), .val (.int p0), .val (.int p1), .val (.int p2), .val (.double v0), .second, .val (.double v1), .second, .val (.double v2), .second] [(.int k)])) _
            refine XS.iconst X0.here hx rfl (hb hby d6_14) ?_
            show Steps p.tables e below (s₁.setTop (mkF m 15 #[.val (.int i), .val (.int k), .val (.int p0), .val (.int p1), .val (.int p2), .val (.double v0), .second, .val (.double v1), .second, .val (.double v2), .second] [(.int (2 : Int32)), (.int k)])) _
            refine XS.icmpYes X0.here hx rfl (pc0 := 15) (pc' := 26) rfl (hb hby d6_15) rfl (tlt hc1).1 (by decide) (by decide) ?_
            exact Steps.refl _
          exact r77
        · skip
          have r78 : Steps p.tables e below S0 (s₁.setTop (mkF m 26 #[.val (.int i), .val (.int k), .val (.int p0), .val (.int p1), .val (.int p2), .val (.double v0), .second, .val (.double v1), .second, .val (.double v2), .second] [])) := by
            refine r72.trans ?_
            show Steps p.tables e below (s₁.setTop (mkF m 13 #[.val (.int i), .val (.int k), .val (.int p0), .val (.int p1), .val (.int p2), .val (.double v0), .second, .val (.double v1), .second, .val (.double v2), .second] [])) _
            refine XS.iloadN X0.here hx rfl (hb hby d6_13) rfl ?_
            show Steps p.tables e below (s₁.setTop (mkF m 14 #[.val (.int i), .val (.int k), .val (.int p0), .val (.int p1), .val (.int p2), .val (.double v0), .second, .val (.double v1), .second, .val (.double v2), .second] [(.int k)])) _
            refine XS.iconst X0.here hx rfl (hb hby d6_14) ?_
            show Steps p.tables e below (s₁.setTop (mkF m 15 #[.val (.int i), .val (.int k), .val (.int p0), .val (.int p1), .val (.int p2), .val (.double v0), .second, .val (.double v1), .second, .val (.double v2), .second] [(.int (2 : Int32)), (.int k)])) _
            refine XS.icmpNo X0.here hx rfl (hb hby d6_15) rfl (flt hc1).1 ?_
            show Steps p.tables e below (s₁.setTop (mkF m 18 #[.val (.int i), .val (.int k), .val (.int p0), .val (.int p1), .val (.int p2), .val (.double v0), .second, .val (.double v1), .second, .val (.double v2), .second] [])) _
            refine XS.iloadN X0.here hx rfl (hb hby d6_18) rfl ?_
            show Steps p.tables e below (s₁.setTop (mkF m 19 #[.val (.int i), .val (.int k), .val (.int p0), .val (.int p1), .val (.int p2), .val (.double v0), .second, .val (.double v1), .second, .val (.double v2), .second] [(.int i)])) _
            refine XS.iloadN X0.here hx rfl (hb hby d6_19) rfl ?_
            show Steps p.tables e below (s₁.setTop (mkF m 20 #[.val (.int i), .val (.int k), .val (.int p0), .val (.int p1), .val (.int p2), .val (.double v0), .second, .val (.double v1), .second, .val (.double v2), .second] [(.int p1), (.int i)])) _
            refine XS.icmpYes X0.here hx rfl (pc0 := 20) (pc' := 26) rfl (hb hby d6_20) rfl (feq (fun z => hh1 ⟨hc1, z⟩)).2 (by decide) (by decide) ?_
            exact Steps.refl _
          exact r78
      by_cases hh2 : ¬ k < (3 : Int32) ∧ i = p2
      · skip
        have r79 : Steps p.tables e below S0 (s₁.setTop (mkF m 39 #[.val (.int i), .val (.int k), .val (.int p0), .val (.int p1), .val (.int p2), .val (.double v0), .second, .val (.double v1), .second, .val (.double v2), .second] [(.double v2)])) := by
          refine r76.trans ?_
          show Steps p.tables e below (s₁.setTop (mkF m 26 #[.val (.int i), .val (.int k), .val (.int p0), .val (.int p1), .val (.int p2), .val (.double v0), .second, .val (.double v1), .second, .val (.double v2), .second] [])) _
          refine XS.iloadN X0.here hx rfl (hb hby d6_26) rfl ?_
          show Steps p.tables e below (s₁.setTop (mkF m 27 #[.val (.int i), .val (.int k), .val (.int p0), .val (.int p1), .val (.int p2), .val (.double v0), .second, .val (.double v1), .second, .val (.double v2), .second] [(.int k)])) _
          refine XS.iconst X0.here hx rfl (hb hby d6_27) ?_
          show Steps p.tables e below (s₁.setTop (mkF m 28 #[.val (.int i), .val (.int k), .val (.int p0), .val (.int p1), .val (.int p2), .val (.double v0), .second, .val (.double v1), .second, .val (.double v2), .second] [(.int (3 : Int32)), (.int k)])) _
          refine XS.icmpNo X0.here hx rfl (hb hby d6_28) rfl (flt hh2.1).1 ?_
          show Steps p.tables e below (s₁.setTop (mkF m 31 #[.val (.int i), .val (.int k), .val (.int p0), .val (.int p1), .val (.int p2), .val (.double v0), .second, .val (.double v1), .second, .val (.double v2), .second] [])) _
          refine XS.iloadN X0.here hx rfl (hb hby d6_31) rfl ?_
          show Steps p.tables e below (s₁.setTop (mkF m 32 #[.val (.int i), .val (.int k), .val (.int p0), .val (.int p1), .val (.int p2), .val (.double v0), .second, .val (.double v1), .second, .val (.double v2), .second] [(.int i)])) _
          refine XS.iload X0.here hx rfl (hb hby d6_32) rfl ?_
          show Steps p.tables e below (s₁.setTop (mkF m 34 #[.val (.int i), .val (.int k), .val (.int p0), .val (.int p1), .val (.int p2), .val (.double v0), .second, .val (.double v1), .second, .val (.double v2), .second] [(.int p2), (.int i)])) _
          refine XS.icmpNo X0.here hx rfl (hb hby d6_34) rfl (teq hh2.2).2 ?_
          show Steps p.tables e below (s₁.setTop (mkF m 37 #[.val (.int i), .val (.int k), .val (.int p0), .val (.int p1), .val (.int p2), .val (.double v0), .second, .val (.double v1), .second, .val (.double v2), .second] [])) _
          refine XS.dload X0.here hx rfl (hb hby d6_37) rfl ?_
          exact Steps.refl _
        obtain ⟨fs, hr, hrun, hended, hW, hsame⟩ := X0.leave (v := some (.double v2)) (fun h => by rw [Bd.returns] at h; cases h)
        refine ⟨_, _, pre0 _ ?_, hrun, hended, _, _, rfl, ?_, ⟨_, rfl⟩, hW, hsame.mono (by decide) (by decide)⟩
        · rw [← hS0]
          refine r79.trans ?_
          show Steps p.tables e below (s₁.setTop (mkF m 39 #[.val (.int i), .val (.int k), .val (.int p0), .val (.int p1), .val (.int p2), .val (.double v0), .second, .val (.double v1), .second, .val (.double v2), .second] [(.double v2)])) _
          exact retD X0 hx Bd.returns (hb hby d6_39) hr
        · exact ⟨by rw [own_e, if_neg hh0, if_neg hh1, if_pos hh2], N0, e0⟩
      · skip
        have r80 : Steps p.tables e below S0 (s₁.setTop (mkF m 40 #[.val (.int i), .val (.int k), .val (.int p0), .val (.int p1), .val (.int p2), .val (.double v0), .second, .val (.double v1), .second, .val (.double v2), .second] [])) := by
          by_cases hc2 : k < (3 : Int32)
          · skip
            have r81 : Steps p.tables e below S0 (s₁.setTop (mkF m 40 #[.val (.int i), .val (.int k), .val (.int p0), .val (.int p1), .val (.int p2), .val (.double v0), .second, .val (.double v1), .second, .val (.double v2), .second] [])) := by
              refine r76.trans ?_
              show Steps p.tables e below (s₁.setTop (mkF m 26 #[.val (.int i), .val (.int k), .val (.int p0), .val (.int p1), .val (.int p2), .val (.double v0), .second, .val (.double v1), .second, .val (.double v2), .second] [])) _
              refine XS.iloadN X0.here hx rfl (hb hby d6_26) rfl ?_
              show Steps p.tables e below (s₁.setTop (mkF m 27 #[.val (.int i), .val (.int k), .val (.int p0), .val (.int p1), .val (.int p2), .val (.double v0), .second, .val (.double v1), .second, .val (.double v2), .second] [(.int k)])) _
              refine XS.iconst X0.here hx rfl (hb hby d6_27) ?_
              show Steps p.tables e below (s₁.setTop (mkF m 28 #[.val (.int i), .val (.int k), .val (.int p0), .val (.int p1), .val (.int p2), .val (.double v0), .second, .val (.double v1), .second, .val (.double v2), .second] [(.int (3 : Int32)), (.int k)])) _
              refine XS.icmpYes X0.here hx rfl (pc0 := 28) (pc' := 40) rfl (hb hby d6_28) rfl (tlt hc2).1 (by decide) (by decide) ?_
              exact Steps.refl _
            exact r81
          · skip
            have r82 : Steps p.tables e below S0 (s₁.setTop (mkF m 40 #[.val (.int i), .val (.int k), .val (.int p0), .val (.int p1), .val (.int p2), .val (.double v0), .second, .val (.double v1), .second, .val (.double v2), .second] [])) := by
              refine r76.trans ?_
              show Steps p.tables e below (s₁.setTop (mkF m 26 #[.val (.int i), .val (.int k), .val (.int p0), .val (.int p1), .val (.int p2), .val (.double v0), .second, .val (.double v1), .second, .val (.double v2), .second] [])) _
              refine XS.iloadN X0.here hx rfl (hb hby d6_26) rfl ?_
              show Steps p.tables e below (s₁.setTop (mkF m 27 #[.val (.int i), .val (.int k), .val (.int p0), .val (.int p1), .val (.int p2), .val (.double v0), .second, .val (.double v1), .second, .val (.double v2), .second] [(.int k)])) _
              refine XS.iconst X0.here hx rfl (hb hby d6_27) ?_
              show Steps p.tables e below (s₁.setTop (mkF m 28 #[.val (.int i), .val (.int k), .val (.int p0), .val (.int p1), .val (.int p2), .val (.double v0), .second, .val (.double v1), .second, .val (.double v2), .second] [(.int (3 : Int32)), (.int k)])) _
              refine XS.icmpNo X0.here hx rfl (hb hby d6_28) rfl (flt hc2).1 ?_
              show Steps p.tables e below (s₁.setTop (mkF m 31 #[.val (.int i), .val (.int k), .val (.int p0), .val (.int p1), .val (.int p2), .val (.double v0), .second, .val (.double v1), .second, .val (.double v2), .second] [])) _
              refine XS.iloadN X0.here hx rfl (hb hby d6_31) rfl ?_
              show Steps p.tables e below (s₁.setTop (mkF m 32 #[.val (.int i), .val (.int k), .val (.int p0), .val (.int p1), .val (.int p2), .val (.double v0), .second, .val (.double v1), .second, .val (.double v2), .second] [(.int i)])) _
              refine XS.iload X0.here hx rfl (hb hby d6_32) rfl ?_
              show Steps p.tables e below (s₁.setTop (mkF m 34 #[.val (.int i), .val (.int k), .val (.int p0), .val (.int p1), .val (.int p2), .val (.double v0), .second, .val (.double v1), .second, .val (.double v2), .second] [(.int p2), (.int i)])) _
              refine XS.icmpYes X0.here hx rfl (pc0 := 34) (pc' := 40) rfl (hb hby d6_34) rfl (feq (fun z => hh2 ⟨hc2, z⟩)).2 (by decide) (by decide) ?_
              exact Steps.refl _
            exact r82
        have r83 : Steps p.tables e below S0 (s₁.setTop (mkF m 41 #[.val (.int i), .val (.int k), .val (.int p0), .val (.int p1), .val (.int p2), .val (.double v0), .second, .val (.double v1), .second, .val (.double v2), .second] [(.double FP.dconst0)])) := by
          refine r80.trans ?_
          show Steps p.tables e below (s₁.setTop (mkF m 40 #[.val (.int i), .val (.int k), .val (.int p0), .val (.int p1), .val (.int p2), .val (.double v0), .second, .val (.double v1), .second, .val (.double v2), .second] [])) _
          refine XS.dconst0 X0.here hx rfl (hb hby d6_40) rfl ?_
          exact Steps.refl _
        obtain ⟨fs, hr, hrun, hended, hW, hsame⟩ := X0.leave (v := some (.double FP.dconst0)) (fun h => by rw [Bd.returns] at h; cases h)
        refine ⟨_, _, pre0 _ ?_, hrun, hended, _, _, rfl, ?_, ⟨_, rfl⟩, hW, hsame.mono (by decide) (by decide)⟩
        · rw [← hS0]
          refine r83.trans ?_
          show Steps p.tables e below (s₁.setTop (mkF m 41 #[.val (.int i), .val (.int k), .val (.int p0), .val (.int p1), .val (.int p2), .val (.double v0), .second, .val (.double v1), .second, .val (.double v2), .second] [(.double FP.dconst0)])) _
          exact retD X0 hx Bd.returns (hb hby d6_41) hr
        · exact ⟨by rw [own_e, if_neg hh0, if_neg hh1, if_neg hh2], N0, e0⟩
theorem pn_5 : plainName "com/example/polytome/polytome/model/SparseVectorToArrayPinLaw" = true := by first | (simp [plainName, overriddenIn]; done) | decide +kernel
theorem ef_5 (m : MethodId) (x0 : Addr) (x1 : Int32) (x2 : Int32) (x3 : Int32) (x4 : Int32) (x5 : Int32) (x6 : UInt64) (x7 : UInt64) (x8 : UInt64) : entryFrame m #[(.ref x0), (.int x1), (.int x2), (.int x3), (.int x4), (.int x5), (.double x6), (.double x7), (.double x8)] 12 = mkF m 0 #[.val (.ref x0), .val (.int x1), .val (.int x2), .val (.int x3), .val (.int x4), .val (.int x5), .val (.double x6), .second, .val (.double x7), .second, .val (.double x8), .second] [] := by first | (simp [entryFrame, mkF, argsToLocals, Value.category]; done) | rfl
def QmK (Z : State) (ar : Addr) (i : Int32) (k : Int32) (p0 : Int32) (p1 : Int32) (p2 : Int32) (v0 : UInt64) (v1 : UInt64) (v2 : UInt64) (z : Int32) (f : Nat → UInt64) (h0 : Heap) (n0 : Nat) (v : Option Value) (h : Heap) (L : List Loc) : Prop := v = some (.int 1) ∧ Fr n0 L ∧ h = h0
set_option maxRecDepth 65536 in
set_option maxHeartbeats 40000000 in
theorem rmK (l : Launch) (Z : State) (a0 : Array Value) (hw : ∀ d ∈ tables_1, d.before a0 Z = true) (ws : List Jvm.Cond) (ar : Addr) (i : Int32) (k : Int32) (p0 : Int32) (p1 : Int32) (p2 : Int32) (v0 : UInt64) (v1 : UInt64) (v2 : UInt64) (z : Int32) (f : Nat → UInt64) (h0 : Heap) (n0 : Nat) (Z0 : n0 ≤ h0.size) (G : Gar Z h0 ar .double z.toNatClampNeg (fun j => .double (f j))) (hz : 0 ≤ z.toInt) (hi : 0 ≤ i.toInt) (hf : i < z → f i.toNatClampNeg = own_e i k p0 p1 p2 v0 v1 v2) (hn : NoNaN64 (own_e i k p0 p1 p2 v0 v1 v2)) :
    MetFree l (⟨"com/example/polytome/polytome/model/SparseVectorToArrayPinLaw", "ok", "([DIIIIIDDD)Z"⟩ : MethodName) (head1 (Jvm.Cond.code (⟨"com/example/polytome/polytome/model/SparseVectorToArrayPinLaw", "ok", "([DIIIIIDDD)Z"⟩ : MethodName) method_4_code 12 (some .boolean) :: ws) ({ frames := 1, cells := 0, slots := 0, locals := 24 } : Room)) (fun a U => a = #[(.ref ar), (.int i), (.int k), (.int p0), (.int p1), (.int p2), (.double v0), (.double v1), (.double v2)] ∧ Z.Warmed39 U.vm ∧ U.heap = h0) (fun _ _ _ _ _ => True) (fun _ U o U' => ∃ v L, o = .returned v ∧ QmK Z ar i k p0 p1 p2 v0 v1 v2 z f h0 n0 v U'.heap L ∧ FrameEnd U o U' L ({ frames := 1, cells := 0, slots := 0, locals := 24 } : Room).cells ({ frames := 1, cells := 0, slots := 0, locals := 24 } : Room).slots) := by
  refine MetFree.of_bodySF (plainFor_of_name pn_5) hisR ?_
  intro p e s m args below meth c s₁ Bd hml0 hP hK
  obtain ⟨rfl, hZ, hh⟩ := hP
  have hx := Bd.exec
  have hby := Bd.bytes
  have hml : c.maxLocals = 12 := hml0
  have hown : s.vm.findClass "com/example/polytome/polytome/model/SparseVectorToArrayPinLaw" = some m.cls := findClass_of_methodNamed Bd.named
  have hnm := (name_of_methodNamed Bd.named Bd.method).1
  have X0 : Stand p l e ({ frames := 1, cells := 0, slots := 0, locals := 24 } : Room) s m #[(.ref ar), (.int i), (.int k), (.int p0), (.int p1), (.int p2), (.double v0), (.double v1), (.double v2)] below meth c s₁ [] 0 0 := Stand.of_body Bd
  have e0 : s₁.heap = h0 := by rw [← hh, Bd.state]; rfl
  have N0 := Fr.nil n0
  have pre0 : ∀ t, Steps p.tables e below (s₁.setTop (mkF m 0 #[.val (.ref ar), .val (.int i), .val (.int k), .val (.int p0), .val (.int p1), .val (.int p2), .val (.double v0), .second, .val (.double v1), .second, .val (.double v2), .second] [])) t → Steps p.tables e below (s₁.setTop (entryFrame m #[(.ref ar), (.int i), (.int k), (.int p0), (.int p1), (.int p2), (.double v0), (.double v1), (.double v2)] 12)) t := fun t_ k_ => castTop (ef_5 m ar i k p0 p1 p2 v0 v1 v2) k_
  obtain ⟨S0, hS0⟩ : ∃ z, z = s₁.setTop (mkF m 0 #[.val (.ref ar), .val (.int i), .val (.int k), .val (.int p0), .val (.int p1), .val (.int p2), .val (.double v0), .second, .val (.double v1), .second, .val (.double v2), .second] []) := ⟨_, rfl⟩
  have r0 : Steps p.tables e below S0 (s₁.setTop (mkF m 0 #[.val (.ref ar), .val (.int i), .val (.int k), .val (.int p0), .val (.int p1), .val (.int p2), .val (.double v0), .second, .val (.double v1), .second, .val (.double v2), .second] [])) := by rw [hS0]; exact Steps.refl _
  have hzn := nn_of hz
  have hin := nn_of hi
  have tz := tn_of hz
  have ti := tn_of hi
  have r84 : Steps p.tables e below S0 (s₁.setTop (mkF m 3 #[.val (.ref ar), .val (.int i), .val (.int k), .val (.int p0), .val (.int p1), .val (.int p2), .val (.double v0), .second, .val (.double v1), .second, .val (.double v2), .second] [(.int z), (.int i)])) := by
    refine r0.trans ?_
    show Steps p.tables e below (s₁.setTop (mkF m 0 #[.val (.ref ar), .val (.int i), .val (.int k), .val (.int p0), .val (.int p1), .val (.int p2), .val (.double v0), .second, .val (.double v1), .second, .val (.double v2), .second] [])) _
    refine XS.iloadN X0.here hx rfl (hb hby d5_0) rfl ?_
    show Steps p.tables e below (s₁.setTop (mkF m 1 #[.val (.ref ar), .val (.int i), .val (.int k), .val (.int p0), .val (.int p1), .val (.int p2), .val (.double v0), .second, .val (.double v1), .second, .val (.double v2), .second] [(.int i)])) _
    refine XS.aloadN X0.here hx rfl (hb hby d5_1) rfl rfl ?_
    show Steps p.tables e below (s₁.setTop (mkF m 2 #[.val (.ref ar), .val (.int i), .val (.int k), .val (.int p0), .val (.int p1), .val (.int p2), .val (.double v0), .second, .val (.double v1), .second, .val (.double v2), .second] [(.ref ar), (.int i)])) _
    refine lnG X0 hx hZ e0 G (z := z) (back32 hzn).1 (g := (mkF m 2 #[.val (.ref ar), .val (.int i), .val (.int k), .val (.int p0), .val (.int p1), .val (.int p2), .val (.double v0), .second, .val (.double v1), .second, .val (.double v2), .second] [(.ref ar), (.int i)])) rfl rfl (hb hby d5_2) _ ?_
    exact Steps.refl _
  by_cases hlt : i < z
  · skip
    have hlt' := Int32.lt_iff_toInt_lt.mp hlt
    have hfe := hf hlt
    have r85 : Steps p.tables e below S0 (s₁.setTop (mkF m 22 #[.val (.ref ar), .val (.int i), .val (.int k), .val (.int p0), .val (.int p1), .val (.int p2), .val (.double v0), .second, .val (.double v1), .second, .val (.double v2), .second] [(.double v2), (.double v1), (.double v0), (.int p2), (.int p1), (.int p0), (.int k), (.int i), (.double (f i.toNatClampNeg))])) := by
      refine r84.trans ?_
      show Steps p.tables e below (s₁.setTop (mkF m 3 #[.val (.ref ar), .val (.int i), .val (.int k), .val (.int p0), .val (.int p1), .val (.int p2), .val (.double v0), .second, .val (.double v1), .second, .val (.double v2), .second] [(.int z), (.int i)])) _
      refine XS.icmpNo X0.here hx rfl (hb hby d5_3) rfl (tlt hlt).2.1 ?_
      show Steps p.tables e below (s₁.setTop (mkF m 6 #[.val (.ref ar), .val (.int i), .val (.int k), .val (.int p0), .val (.int p1), .val (.int p2), .val (.double v0), .second, .val (.double v1), .second, .val (.double v2), .second] [])) _
      refine XS.aloadN X0.here hx rfl (hb hby d5_6) rfl rfl ?_
      show Steps p.tables e below (s₁.setTop (mkF m 7 #[.val (.ref ar), .val (.int i), .val (.int k), .val (.int p0), .val (.int p1), .val (.int p2), .val (.double v0), .second, .val (.double v1), .second, .val (.double v2), .second] [(.ref ar)])) _
      refine XS.iloadN X0.here hx rfl (hb hby d5_7) rfl ?_
      show Steps p.tables e below (s₁.setTop (mkF m 8 #[.val (.ref ar), .val (.int i), .val (.int k), .val (.int p0), .val (.int p1), .val (.int p2), .val (.double v0), .second, .val (.double v1), .second, .val (.double v2), .second] [(.int i), (.ref ar)])) _
      refine ldD X0 hx hZ e0 G (j := i) hin (by omega) (v := (.double (f i.toNatClampNeg))) rfl (g := (mkF m 8 #[.val (.ref ar), .val (.int i), .val (.int k), .val (.int p0), .val (.int p1), .val (.int p2), .val (.double v0), .second, .val (.double v1), .second, .val (.double v2), .second] [(.int i), (.ref ar)])) rfl rfl (hb hby d5_8) _ ?_
      show Steps p.tables e below (s₁.setTop (mkF m 9 #[.val (.ref ar), .val (.int i), .val (.int k), .val (.int p0), .val (.int p1), .val (.int p2), .val (.double v0), .second, .val (.double v1), .second, .val (.double v2), .second] [(.double (f i.toNatClampNeg))])) _
      refine XS.iloadN X0.here hx rfl (hb hby d5_9) rfl ?_
      show Steps p.tables e below (s₁.setTop (mkF m 10 #[.val (.ref ar), .val (.int i), .val (.int k), .val (.int p0), .val (.int p1), .val (.int p2), .val (.double v0), .second, .val (.double v1), .second, .val (.double v2), .second] [(.int i), (.double (f i.toNatClampNeg))])) _
      refine XS.iloadN X0.here hx rfl (hb hby d5_10) rfl ?_
      show Steps p.tables e below (s₁.setTop (mkF m 11 #[.val (.ref ar), .val (.int i), .val (.int k), .val (.int p0), .val (.int p1), .val (.int p2), .val (.double v0), .second, .val (.double v1), .second, .val (.double v2), .second] [(.int k), (.int i), (.double (f i.toNatClampNeg))])) _
      refine XS.iloadN X0.here hx rfl (hb hby d5_11) rfl ?_
      show Steps p.tables e below (s₁.setTop (mkF m 12 #[.val (.ref ar), .val (.int i), .val (.int k), .val (.int p0), .val (.int p1), .val (.int p2), .val (.double v0), .second, .val (.double v1), .second, .val (.double v2), .second] [(.int p0), (.int k), (.int i), (.double (f i.toNatClampNeg))])) _
      refine XS.iload X0.here hx rfl (hb hby d5_12) rfl ?_
      show Steps p.tables e below (s₁.setTop (mkF m 14 #[.val (.ref ar), .val (.int i), .val (.int k), .val (.int p0), .val (.int p1), .val (.int p2), .val (.double v0), .second, .val (.double v1), .second, .val (.double v2), .second] [(.int p1), (.int p0), (.int k), (.int i), (.double (f i.toNatClampNeg))])) _
      refine XS.iload X0.here hx rfl (hb hby d5_14) rfl ?_
      show Steps p.tables e below (s₁.setTop (mkF m 16 #[.val (.ref ar), .val (.int i), .val (.int k), .val (.int p0), .val (.int p1), .val (.int p2), .val (.double v0), .second, .val (.double v1), .second, .val (.double v2), .second] [(.int p2), (.int p1), (.int p0), (.int k), (.int i), (.double (f i.toNatClampNeg))])) _
      refine XS.dload X0.here hx rfl (hb hby d5_16) rfl ?_
      show Steps p.tables e below (s₁.setTop (mkF m 18 #[.val (.ref ar), .val (.int i), .val (.int k), .val (.int p0), .val (.int p1), .val (.int p2), .val (.double v0), .second, .val (.double v1), .second, .val (.double v2), .second] [(.double v0), (.int p2), (.int p1), (.int p0), (.int k), (.int i), (.double (f i.toNatClampNeg))])) _
      refine XS.dload X0.here hx rfl (hb hby d5_18) rfl ?_
      show Steps p.tables e below (s₁.setTop (mkF m 20 #[.val (.ref ar), .val (.int i), .val (.int k), .val (.int p0), .val (.int p1), .val (.int p2), .val (.double v0), .second, .val (.double v1), .second, .val (.double v2), .second] [(.double v1), (.double v0), (.int p2), (.int p1), (.int p0), (.int k), (.int i), (.double (f i.toNatClampNeg))])) _
      refine XS.dload X0.here hx rfl (hb hby d5_20) rfl ?_
      exact Steps.refl _
    obtain ⟨_, _, ⟨T86, L86, k86, n86⟩, -, X86, ⟨Lc86, hQ86, l86, y86, z86⟩, st86⟩ := Jvm.LawKit.callS X0 hx (y := (⟨"com/example/polytome/polytome/model/SparseVectorToArrayPinLaw", "expected", "(IIIIIDDD)D"⟩ : MethodName)) hown (mvT hZ (hw _ (List.mem_of_getElem? (i := 48) rfl))) (mvT hZ (hw _ (List.mem_of_getElem? (i := 49) rfl))) (mvT hZ (hw _ (List.mem_of_getElem? (i := 46) rfl))) (mvT hZ (hw _ (List.mem_of_getElem? (i := 50) rfl))) (by decide) (backOf (W := 2) (rmE l Z a0 hw [] i k p0 p1 p2 v0 v1 v2 h0 n0 Z0) hZ (hw _ (List.mem_of_getElem? (i := 50) rfl)) (hw _ (List.mem_of_getElem? (i := 46) rfl)) (by decide) (by decide)) (g := (mkF m 22 #[.val (.ref ar), .val (.int i), .val (.int k), .val (.int p0), .val (.int p1), .val (.int p2), .val (.double v0), .second, .val (.double v1), .second, .val (.double v2), .second] [(.double v2), (.double v1), (.double v0), (.int p2), (.int p1), (.int p0), (.int k), (.int i), (.double (f i.toNatClampNeg))])) rfl (by rw [hml]; rfl) (argsL := [(.int i), (.int k), (.int p0), (.int p1), (.int p2), (.double v0), (.double v1), (.double v2)]) (rest := [(.double (f i.toNatClampNeg))]) (lenOf pd_1 rfl) rfl (by show 2 * 0 + _ ≤ _; exact Nat.le_of_eq rfl) (hb hby d5_22) (fun _ _ => ⟨rfl, e0, (by decide : 0 + 0 ≤ _), (by decide : 0 + 0 ≤ _)⟩)
    dsimp only [Pt.U, Pt.locs, Pt.cells, Pt.slots] at X86 l86 y86 z86 st86 hQ86
    subst l86 y86 z86
    obtain ⟨rfl, Nq86, e86⟩ := hQ86
    have N86 := Fr.app N0 Nq86
    have r87 : Steps p.tables e below S0 (T86.setTop (mkF m 25 #[.val (.ref ar), .val (.int i), .val (.int k), .val (.int p0), .val (.int p1), .val (.int p2), .val (.double v0), .second, .val (.double v1), .second, .val (.double v2), .second] [(.double (own_e i k p0 p1 p2 v0 v1 v2)), (.double (f i.toNatClampNeg))])) := r85.trans (st86 _ (Steps.refl _))
    have r88 : Steps p.tables e below S0 (T86.setTop (mkF m 34 #[.val (.ref ar), .val (.int i), .val (.int k), .val (.int p0), .val (.int p1), .val (.int p2), .val (.double v0), .second, .val (.double v1), .second, .val (.double v2), .second] [(.int (1 : Int32))])) := by
      refine r87.trans ?_
      show Steps p.tables e below (T86.setTop (mkF m 25 #[.val (.ref ar), .val (.int i), .val (.int k), .val (.int p0), .val (.int p1), .val (.int p2), .val (.double v0), .second, .val (.double v1), .second, .val (.double v2), .second] [(.double (own_e i k p0 p1 p2 v0 v1 v2)), (.double (f i.toNatClampNeg))])) _
      refine XS.dcmpS X86.here hx rfl (hb hby d5_25) rfl (show cmpValue (FP.dcmp (f i.toNatClampNeg) (own_e i k p0 p1 p2 v0 v1 v2)) .l = (0 : Int32) from (by rw [hfe]; exact dcmpV_self hn _)) ?_
      show Steps p.tables e below (T86.setTop (mkF m 26 #[.val (.ref ar), .val (.int i), .val (.int k), .val (.int p0), .val (.int p1), .val (.int p2), .val (.double v0), .second, .val (.double v1), .second, .val (.double v2), .second] [(.int (0 : Int32))])) _
      refine XS.ifNo X86.here hx rfl (hb hby d5_26) rfl ((if0 _ _).trans (teq rfl).2) ?_
      show Steps p.tables e below (T86.setTop (mkF m 29 #[.val (.ref ar), .val (.int i), .val (.int k), .val (.int p0), .val (.int p1), .val (.int p2), .val (.double v0), .second, .val (.double v1), .second, .val (.double v2), .second] [])) _
      refine XS.iconst X86.here hx rfl (hb hby d5_29) ?_
      show Steps p.tables e below (T86.setTop (mkF m 30 #[.val (.ref ar), .val (.int i), .val (.int k), .val (.int p0), .val (.int p1), .val (.int p2), .val (.double v0), .second, .val (.double v1), .second, .val (.double v2), .second] [(.int (1 : Int32))])) _
      refine XS.goto X86.here hx rfl (pc0 := 30) (pc' := 34) rfl (hb hby d5_30) (by decide) (by decide) ?_
      exact Steps.refl _
    obtain ⟨fs, hr, hrun, hended, hW, hsame⟩ := X86.leave (v := some (.int (1 : Int32))) (fun h => by rw [Bd.returns] at h; cases h)
    refine ⟨_, _, pre0 _ ?_, hrun, hended, _, _, rfl, ?_, ⟨_, rfl⟩, hW, hsame.mono (by decide) (by decide)⟩
    · rw [← hS0]
      refine r88.trans ?_
      show Steps p.tables e below (T86.setTop (mkF m 34 #[.val (.ref ar), .val (.int i), .val (.int k), .val (.int p0), .val (.int p1), .val (.int p2), .val (.double v0), .second, .val (.double v1), .second, .val (.double v2), .second] [(.int (1 : Int32))])) _
      exact retB X86 hx Bd.returns (by first | exact Or.inr rfl | exact Or.inl rfl | (split <;> simp)) (hb hby d5_34) hr
    · exact ⟨rfl, N86, e86⟩
  · skip
    have r89 : Steps p.tables e below S0 (s₁.setTop (mkF m 34 #[.val (.ref ar), .val (.int i), .val (.int k), .val (.int p0), .val (.int p1), .val (.int p2), .val (.double v0), .second, .val (.double v1), .second, .val (.double v2), .second] [(.int (1 : Int32))])) := by
      refine r84.trans ?_
      show Steps p.tables e below (s₁.setTop (mkF m 3 #[.val (.ref ar), .val (.int i), .val (.int k), .val (.int p0), .val (.int p1), .val (.int p2), .val (.double v0), .second, .val (.double v1), .second, .val (.double v2), .second] [(.int z), (.int i)])) _
      refine XS.icmpYes X0.here hx rfl (pc0 := 3) (pc' := 29) rfl (hb hby d5_3) rfl (flt hlt).2.1 (by decide) (by decide) ?_
      show Steps p.tables e below (s₁.setTop (mkF m 29 #[.val (.ref ar), .val (.int i), .val (.int k), .val (.int p0), .val (.int p1), .val (.int p2), .val (.double v0), .second, .val (.double v1), .second, .val (.double v2), .second] [])) _
      refine XS.iconst X0.here hx rfl (hb hby d5_29) ?_
      show Steps p.tables e below (s₁.setTop (mkF m 30 #[.val (.ref ar), .val (.int i), .val (.int k), .val (.int p0), .val (.int p1), .val (.int p2), .val (.double v0), .second, .val (.double v1), .second, .val (.double v2), .second] [(.int (1 : Int32))])) _
      refine XS.goto X0.here hx rfl (pc0 := 30) (pc' := 34) rfl (hb hby d5_30) (by decide) (by decide) ?_
      exact Steps.refl _
    obtain ⟨fs, hr, hrun, hended, hW, hsame⟩ := X0.leave (v := some (.int (1 : Int32))) (fun h => by rw [Bd.returns] at h; cases h)
    refine ⟨_, _, pre0 _ ?_, hrun, hended, _, _, rfl, ?_, ⟨_, rfl⟩, hW, hsame.mono (by decide) (by decide)⟩
    · rw [← hS0]
      refine r89.trans ?_
      show Steps p.tables e below (s₁.setTop (mkF m 34 #[.val (.ref ar), .val (.int i), .val (.int k), .val (.int p0), .val (.int p1), .val (.int p2), .val (.double v0), .second, .val (.double v1), .second, .val (.double v2), .second] [(.int (1 : Int32))])) _
      exact retB X0 hx Bd.returns (by first | exact Or.inr rfl | exact Or.inl rfl | (split <;> simp)) (hb hby d5_34) hr
    · exact ⟨rfl, N0, e0⟩
theorem pn_0 : plainName "com/example/polytome/polytome/model/SparseVectorToArrayPinLaw" = true := by first | (simp [plainName, overriddenIn]; done) | decide +kernel
theorem ef_0 (m : MethodId) (x0 : Int32) (x1 : Int32) (x2 : Int32) (x3 : Int32) (x4 : Int32) : entryFrame m #[(.int x0), (.int x1), (.int x2), (.int x3), (.int x4)] maxLocals = mkF m 0 #[.val (.int x0), .val (.int x1), .val (.int x2), .val (.int x3), .val (.int x4), .unset, .unset, .unset, .unset, .unset, .unset, .unset, .unset, .unset, .unset, .unset, .unset, .unset, .unset, .unset, .unset, .unset, .unset, .unset] [] := by first | (simp [entryFrame, mkF, argsToLocals, Value.category, maxLocals]; done) | rfl
def Qm0 (Z : State) (q1 : Int32) (q2 : Int32) (q3 : Int32) (q4 : Int32) (q5 : Int32)  (h0 : Heap) (n0 : Nat) (v : Option Value) (h : Heap) (L : List Loc) : Prop := v = some (.int 1) ∧ Fr n0 L
set_option maxRecDepth 65536 in
set_option maxHeartbeats 40000000 in
theorem rm0 (l : Launch) (Z : State) (a0 : Array Value) (hw : ∀ d ∈ tables_1, d.before a0 Z = true) (ws : List Jvm.Cond) (q1 : Int32) (q2 : Int32) (q3 : Int32) (q4 : Int32) (q5 : Int32)  (h0 : Heap) (n0 : Nat) (Z0 : n0 ≤ h0.size)  :
    MetFree l x (head1 (Jvm.Cond.code x code maxLocals ret :: ws) room_1) (fun a U => a = #[(.int q1), (.int q2), (.int q3), (.int q4), (.int q5)] ∧ Z.Warmed39 U.vm ∧ U.heap = h0) (fun _ _ _ _ _ => True) (fun _ U o U' => ∃ v L, o = .returned v ∧ Qm0 Z q1 q2 q3 q4 q5 h0 n0 v U'.heap L ∧ FrameEnd U o U' L room_1.cells room_1.slots) := by
  refine MetFree.of_bodySF (plainFor_of_name pn_0) hisR ?_
  intro p e s m args below meth c s₁ Bd hml0 hP hK
  obtain ⟨rfl, hZ, hh⟩ := hP
  have hx := Bd.exec
  have hby := Bd.bytes
  have hml : c.maxLocals = 24 := hml0
  have hown : s.vm.findClass "com/example/polytome/polytome/model/SparseVectorToArrayPinLaw" = some m.cls := findClass_of_methodNamed Bd.named
  have hnm := (name_of_methodNamed Bd.named Bd.method).1
  have X0 : Stand p l e room_1 s m #[(.int q1), (.int q2), (.int q3), (.int q4), (.int q5)] below meth c s₁ [] 0 0 := Stand.of_body Bd
  have e0 : s₁.heap = h0 := by rw [← hh, Bd.state]; rfl
  have N0 := Fr.nil n0
  have pre0 : ∀ t, Steps p.tables e below (s₁.setTop (mkF m 0 #[.val (.int q1), .val (.int q2), .val (.int q3), .val (.int q4), .val (.int q5), .unset, .unset, .unset, .unset, .unset, .unset, .unset, .unset, .unset, .unset, .unset, .unset, .unset, .unset, .unset, .unset, .unset, .unset, .unset] [])) t → Steps p.tables e below (s₁.setTop (entryFrame m #[(.int q1), (.int q2), (.int q3), (.int q4), (.int q5)] maxLocals)) t := fun t_ k_ => castTop (ef_0 m q1 q2 q3 q4 q5) k_
  obtain ⟨S0, hS0⟩ : ∃ z, z = s₁.setTop (mkF m 0 #[.val (.int q1), .val (.int q2), .val (.int q3), .val (.int q4), .val (.int q5), .unset, .unset, .unset, .unset, .unset, .unset, .unset, .unset, .unset, .unset, .unset, .unset, .unset, .unset, .unset, .unset, .unset, .unset, .unset] []) := ⟨_, rfl⟩
  have r0 : Steps p.tables e below S0 (s₁.setTop (mkF m 0 #[.val (.int q1), .val (.int q2), .val (.int q3), .val (.int q4), .val (.int q5), .unset, .unset, .unset, .unset, .unset, .unset, .unset, .unset, .unset, .unset, .unset, .unset, .unset, .unset, .unset, .unset, .unset, .unset, .unset] [])) := by rw [hS0]; exact Steps.refl _
  have r90 : Steps p.tables e below S0 (s₁.setTop (mkF m 8 #[.val (.int q1), .val (.int q2), .val (.int q3), .val (.int q4), .val (.int q5), .val (.int (((q1.toUInt32 >>> ((8 : Int32) &&& 31).toUInt32).toInt32) &&& (3 : Int32))), .unset, .unset, .unset, .unset, .unset, .unset, .unset, .unset, .unset, .unset, .unset, .unset, .unset, .unset, .unset, .unset, .unset, .unset] [])) := by
    refine r0.trans ?_
    show Steps p.tables e below (s₁.setTop (mkF m 0 #[.val (.int q1), .val (.int q2), .val (.int q3), .val (.int q4), .val (.int q5), .unset, .unset, .unset, .unset, .unset, .unset, .unset, .unset, .unset, .unset, .unset, .unset, .unset, .unset, .unset, .unset, .unset, .unset, .unset] [])) _
    refine XS.iloadN X0.here hx rfl (hb hby at_0) rfl ?_
    show Steps p.tables e below (s₁.setTop (mkF m 1 #[.val (.int q1), .val (.int q2), .val (.int q3), .val (.int q4), .val (.int q5), .unset, .unset, .unset, .unset, .unset, .unset, .unset, .unset, .unset, .unset, .unset, .unset, .unset, .unset, .unset, .unset, .unset, .unset, .unset] [(.int q1)])) _
    refine XS.bipush X0.here hx rfl (hb hby at_1) ?_
    show Steps p.tables e below (s₁.setTop (mkF m 3 #[.val (.int q1), .val (.int q2), .val (.int q3), .val (.int q4), .val (.int q5), .unset, .unset, .unset, .unset, .unset, .unset, .unset, .unset, .unset, .unset, .unset, .unset, .unset, .unset, .unset, .unset, .unset, .unset, .unset] [(.int (8 : Int32)), (.int q1)])) _
    refine XS.iushr X0.here hx rfl (hb hby at_3) rfl ?_
    show Steps p.tables e below (s₁.setTop (mkF m 4 #[.val (.int q1), .val (.int q2), .val (.int q3), .val (.int q4), .val (.int q5), .unset, .unset, .unset, .unset, .unset, .unset, .unset, .unset, .unset, .unset, .unset, .unset, .unset, .unset, .unset, .unset, .unset, .unset, .unset] [(.int ((q1.toUInt32 >>> ((8 : Int32) &&& 31).toUInt32).toInt32))])) _
    refine XS.iconst X0.here hx rfl (hb hby at_4) ?_
    show Steps p.tables e below (s₁.setTop (mkF m 5 #[.val (.int q1), .val (.int q2), .val (.int q3), .val (.int q4), .val (.int q5), .unset, .unset, .unset, .unset, .unset, .unset, .unset, .unset, .unset, .unset, .unset, .unset, .unset, .unset, .unset, .unset, .unset, .unset, .unset] [(.int (3 : Int32)), (.int ((q1.toUInt32 >>> ((8 : Int32) &&& 31).toUInt32).toInt32))])) _
    refine XS.iand X0.here hx rfl (hb hby at_5) rfl ?_
    show Steps p.tables e below (s₁.setTop (mkF m 6 #[.val (.int q1), .val (.int q2), .val (.int q3), .val (.int q4), .val (.int q5), .unset, .unset, .unset, .unset, .unset, .unset, .unset, .unset, .unset, .unset, .unset, .unset, .unset, .unset, .unset, .unset, .unset, .unset, .unset] [(.int (((q1.toUInt32 >>> ((8 : Int32) &&& 31).toUInt32).toInt32) &&& (3 : Int32)))])) _
    refine XS.istore X0.here hx rfl (hb hby at_6) rfl (l' := #[.val (.int q1), .val (.int q2), .val (.int q3), .val (.int q4), .val (.int q5), .val (.int (((q1.toUInt32 >>> ((8 : Int32) &&& 31).toUInt32).toInt32) &&& (3 : Int32))), .unset, .unset, .unset, .unset, .unset, .unset, .unset, .unset, .unset, .unset, .unset, .unset, .unset, .unset, .unset, .unset, .unset, .unset]) rfl ?_
    exact Steps.refl _
  obtain ⟨k, hk⟩ : ∃ z, z = (((q1.toUInt32 >>> ((8 : Int32) &&& 31).toUInt32).toInt32) &&& (3 : Int32)) := ⟨_, rfl⟩
  have r91 : Steps p.tables e below S0 (s₁.setTop (mkF m 8 #[.val (.int q1), .val (.int q2), .val (.int q3), .val (.int q4), .val (.int q5), .val (.int k), .unset, .unset, .unset, .unset, .unset, .unset, .unset, .unset, .unset, .unset, .unset, .unset, .unset, .unset, .unset, .unset, .unset, .unset] [])) := by rw [hk]; exact r90
  have r92 : Steps p.tables e below S0 (s₁.setTop (mkF m 14 #[.val (.int q1), .val (.int q2), .val (.int q3), .val (.int q4), .val (.int q5), .val (.int k), .unset, .unset, .unset, .unset, .unset, .unset, .unset, .unset, .unset, .unset, .unset, .unset, .unset, .unset, .unset, .unset, .unset, .unset] [(.int (((q1.toUInt32 >>> ((10 : Int32) &&& 31).toUInt32).toInt32) &&& (1 : Int32)))])) := by
    refine r91.trans ?_
    show Steps p.tables e below (s₁.setTop (mkF m 8 #[.val (.int q1), .val (.int q2), .val (.int q3), .val (.int q4), .val (.int q5), .val (.int k), .unset, .unset, .unset, .unset, .unset, .unset, .unset, .unset, .unset, .unset, .unset, .unset, .unset, .unset, .unset, .unset, .unset, .unset] [])) _
    refine XS.iloadN X0.here hx rfl (hb hby at_8) rfl ?_
    show Steps p.tables e below (s₁.setTop (mkF m 9 #[.val (.int q1), .val (.int q2), .val (.int q3), .val (.int q4), .val (.int q5), .val (.int k), .unset, .unset, .unset, .unset, .unset, .unset, .unset, .unset, .unset, .unset, .unset, .unset, .unset, .unset, .unset, .unset, .unset, .unset] [(.int q1)])) _
    refine XS.bipush X0.here hx rfl (hb hby at_9) ?_
    show Steps p.tables e below (s₁.setTop (mkF m 11 #[.val (.int q1), .val (.int q2), .val (.int q3), .val (.int q4), .val (.int q5), .val (.int k), .unset, .unset, .unset, .unset, .unset, .unset, .unset, .unset, .unset, .unset, .unset, .unset, .unset, .unset, .unset, .unset, .unset, .unset] [(.int (10 : Int32)), (.int q1)])) _
    refine XS.iushr X0.here hx rfl (hb hby at_11) rfl ?_
    show Steps p.tables e below (s₁.setTop (mkF m 12 #[.val (.int q1), .val (.int q2), .val (.int q3), .val (.int q4), .val (.int q5), .val (.int k), .unset, .unset, .unset, .unset, .unset, .unset, .unset, .unset, .unset, .unset, .unset, .unset, .unset, .unset, .unset, .unset, .unset, .unset] [(.int ((q1.toUInt32 >>> ((10 : Int32) &&& 31).toUInt32).toInt32))])) _
    refine XS.iconst X0.here hx rfl (hb hby at_12) ?_
    show Steps p.tables e below (s₁.setTop (mkF m 13 #[.val (.int q1), .val (.int q2), .val (.int q3), .val (.int q4), .val (.int q5), .val (.int k), .unset, .unset, .unset, .unset, .unset, .unset, .unset, .unset, .unset, .unset, .unset, .unset, .unset, .unset, .unset, .unset, .unset, .unset] [(.int (1 : Int32)), (.int ((q1.toUInt32 >>> ((10 : Int32) &&& 31).toUInt32).toInt32))])) _
    refine XS.iand X0.here hx rfl (hb hby at_13) rfl ?_
    exact Steps.refl _
  have r96 : Steps p.tables e below S0 (s₁.setTop (mkF m 22 #[.val (.int q1), .val (.int q2), .val (.int q3), .val (.int q4), .val (.int q5), .val (.int k), .unset, .unset, .unset, .unset, .unset, .unset, .unset, .unset, .unset, .unset, .unset, .unset, .unset, .unset, .unset, .unset, .unset, .unset] [(.int (if (((q1.toUInt32 >>> ((10 : Int32) &&& 31).toUInt32).toInt32) &&& (1 : Int32)) = (0 : Int32) then (0 : Int32) else (1 : Int32)))])) := by
    refine r92.trans ?_
    by_cases hf93 : (((q1.toUInt32 >>> ((10 : Int32) &&& 31).toUInt32).toInt32) &&& (1 : Int32)) = (0 : Int32)
    · skip
      rw [show (if (((q1.toUInt32 >>> ((10 : Int32) &&& 31).toUInt32).toInt32) &&& (1 : Int32)) = (0 : Int32) then (0 : Int32) else (1 : Int32)) = (0 : Int32) from if_pos hf93]
      have q0 : Steps p.tables e below (s₁.setTop (mkF m 14 #[.val (.int q1), .val (.int q2), .val (.int q3), .val (.int q4), .val (.int q5), .val (.int k), .unset, .unset, .unset, .unset, .unset, .unset, .unset, .unset, .unset, .unset, .unset, .unset, .unset, .unset, .unset, .unset, .unset, .unset] [(.int (((q1.toUInt32 >>> ((10 : Int32) &&& 31).toUInt32).toInt32) &&& (1 : Int32)))])) (s₁.setTop (mkF m 14 #[.val (.int q1), .val (.int q2), .val (.int q3), .val (.int q4), .val (.int q5), .val (.int k), .unset, .unset, .unset, .unset, .unset, .unset, .unset, .unset, .unset, .unset, .unset, .unset, .unset, .unset, .unset, .unset, .unset, .unset] [(.int (((q1.toUInt32 >>> ((10 : Int32) &&& 31).toUInt32).toInt32) &&& (1 : Int32)))])) := Steps.refl _
      have r94 : Steps p.tables e below (s₁.setTop (mkF m 14 #[.val (.int q1), .val (.int q2), .val (.int q3), .val (.int q4), .val (.int q5), .val (.int k), .unset, .unset, .unset, .unset, .unset, .unset, .unset, .unset, .unset, .unset, .unset, .unset, .unset, .unset, .unset, .unset, .unset, .unset] [(.int (((q1.toUInt32 >>> ((10 : Int32) &&& 31).toUInt32).toInt32) &&& (1 : Int32)))])) (s₁.setTop (mkF m 22 #[.val (.int q1), .val (.int q2), .val (.int q3), .val (.int q4), .val (.int q5), .val (.int k), .unset, .unset, .unset, .unset, .unset, .unset, .unset, .unset, .unset, .unset, .unset, .unset, .unset, .unset, .unset, .unset, .unset, .unset] [(.int (0 : Int32))])) := by
        refine q0.trans ?_
        show Steps p.tables e below (s₁.setTop (mkF m 14 #[.val (.int q1), .val (.int q2), .val (.int q3), .val (.int q4), .val (.int q5), .val (.int k), .unset, .unset, .unset, .unset, .unset, .unset, .unset, .unset, .unset, .unset, .unset, .unset, .unset, .unset, .unset, .unset, .unset, .unset] [(.int (((q1.toUInt32 >>> ((10 : Int32) &&& 31).toUInt32).toInt32) &&& (1 : Int32)))])) _
        refine XS.ifYes X0.here hx rfl (pc0 := 14) (pc' := 21) rfl (hb hby at_14) rfl ((if0 _ _).trans (teq hf93).1) (by decide) (by decide) ?_
        show Steps p.tables e below (s₁.setTop (mkF m 21 #[.val (.int q1), .val (.int q2), .val (.int q3), .val (.int q4), .val (.int q5), .val (.int k), .unset, .unset, .unset, .unset, .unset, .unset, .unset, .unset, .unset, .unset, .unset, .unset, .unset, .unset, .unset, .unset, .unset, .unset] [])) _
        refine XS.iconst X0.here hx rfl (hb hby at_21) ?_
        exact Steps.refl _
      exact r94
    · skip
      rw [show (if (((q1.toUInt32 >>> ((10 : Int32) &&& 31).toUInt32).toInt32) &&& (1 : Int32)) = (0 : Int32) then (0 : Int32) else (1 : Int32)) = (1 : Int32) from if_neg hf93]
      have q0 : Steps p.tables e below (s₁.setTop (mkF m 14 #[.val (.int q1), .val (.int q2), .val (.int q3), .val (.int q4), .val (.int q5), .val (.int k), .unset, .unset, .unset, .unset, .unset, .unset, .unset, .unset, .unset, .unset, .unset, .unset, .unset, .unset, .unset, .unset, .unset, .unset] [(.int (((q1.toUInt32 >>> ((10 : Int32) &&& 31).toUInt32).toInt32) &&& (1 : Int32)))])) (s₁.setTop (mkF m 14 #[.val (.int q1), .val (.int q2), .val (.int q3), .val (.int q4), .val (.int q5), .val (.int k), .unset, .unset, .unset, .unset, .unset, .unset, .unset, .unset, .unset, .unset, .unset, .unset, .unset, .unset, .unset, .unset, .unset, .unset] [(.int (((q1.toUInt32 >>> ((10 : Int32) &&& 31).toUInt32).toInt32) &&& (1 : Int32)))])) := Steps.refl _
      have r95 : Steps p.tables e below (s₁.setTop (mkF m 14 #[.val (.int q1), .val (.int q2), .val (.int q3), .val (.int q4), .val (.int q5), .val (.int k), .unset, .unset, .unset, .unset, .unset, .unset, .unset, .unset, .unset, .unset, .unset, .unset, .unset, .unset, .unset, .unset, .unset, .unset] [(.int (((q1.toUInt32 >>> ((10 : Int32) &&& 31).toUInt32).toInt32) &&& (1 : Int32)))])) (s₁.setTop (mkF m 22 #[.val (.int q1), .val (.int q2), .val (.int q3), .val (.int q4), .val (.int q5), .val (.int k), .unset, .unset, .unset, .unset, .unset, .unset, .unset, .unset, .unset, .unset, .unset, .unset, .unset, .unset, .unset, .unset, .unset, .unset] [(.int (1 : Int32))])) := by
        refine q0.trans ?_
        show Steps p.tables e below (s₁.setTop (mkF m 14 #[.val (.int q1), .val (.int q2), .val (.int q3), .val (.int q4), .val (.int q5), .val (.int k), .unset, .unset, .unset, .unset, .unset, .unset, .unset, .unset, .unset, .unset, .unset, .unset, .unset, .unset, .unset, .unset, .unset, .unset] [(.int (((q1.toUInt32 >>> ((10 : Int32) &&& 31).toUInt32).toInt32) &&& (1 : Int32)))])) _
        refine XS.ifNo X0.here hx rfl (hb hby at_14) rfl ((if0 _ _).trans (feq hf93).1) ?_
        show Steps p.tables e below (s₁.setTop (mkF m 17 #[.val (.int q1), .val (.int q2), .val (.int q3), .val (.int q4), .val (.int q5), .val (.int k), .unset, .unset, .unset, .unset, .unset, .unset, .unset, .unset, .unset, .unset, .unset, .unset, .unset, .unset, .unset, .unset, .unset, .unset] [])) _
        refine XS.iconst X0.here hx rfl (hb hby at_17) ?_
        show Steps p.tables e below (s₁.setTop (mkF m 18 #[.val (.int q1), .val (.int q2), .val (.int q3), .val (.int q4), .val (.int q5), .val (.int k), .unset, .unset, .unset, .unset, .unset, .unset, .unset, .unset, .unset, .unset, .unset, .unset, .unset, .unset, .unset, .unset, .unset, .unset] [(.int (1 : Int32))])) _
        refine XS.goto X0.here hx rfl (pc0 := 18) (pc' := 22) rfl (hb hby at_18) (by decide) (by decide) ?_
        exact Steps.refl _
      exact r95
  have r97 : Steps p.tables e below S0 (s₁.setTop (mkF m 24 #[.val (.int q1), .val (.int q2), .val (.int q3), .val (.int q4), .val (.int q5), .val (.int k), .val (.int (if (((q1.toUInt32 >>> ((10 : Int32) &&& 31).toUInt32).toInt32) &&& (1 : Int32)) = (0 : Int32) then (0 : Int32) else (1 : Int32))), .unset, .unset, .unset, .unset, .unset, .unset, .unset, .unset, .unset, .unset, .unset, .unset, .unset, .unset, .unset, .unset, .unset] [])) := by
    refine r96.trans ?_
    show Steps p.tables e below (s₁.setTop (mkF m 22 #[.val (.int q1), .val (.int q2), .val (.int q3), .val (.int q4), .val (.int q5), .val (.int k), .unset, .unset, .unset, .unset, .unset, .unset, .unset, .unset, .unset, .unset, .unset, .unset, .unset, .unset, .unset, .unset, .unset, .unset] [(.int (if (((q1.toUInt32 >>> ((10 : Int32) &&& 31).toUInt32).toInt32) &&& (1 : Int32)) = (0 : Int32) then (0 : Int32) else (1 : Int32)))])) _
    refine XS.istore X0.here hx rfl (hb hby at_22) rfl (l' := #[.val (.int q1), .val (.int q2), .val (.int q3), .val (.int q4), .val (.int q5), .val (.int k), .val (.int (if (((q1.toUInt32 >>> ((10 : Int32) &&& 31).toUInt32).toInt32) &&& (1 : Int32)) = (0 : Int32) then (0 : Int32) else (1 : Int32))), .unset, .unset, .unset, .unset, .unset, .unset, .unset, .unset, .unset, .unset, .unset, .unset, .unset, .unset, .unset, .unset, .unset]) rfl ?_
    exact Steps.refl _
  obtain ⟨av, hav⟩ : ∃ z, z = (if (((q1.toUInt32 >>> ((10 : Int32) &&& 31).toUInt32).toInt32) &&& (1 : Int32)) = (0 : Int32) then (0 : Int32) else (1 : Int32)) := ⟨_, rfl⟩
  have r98 : Steps p.tables e below S0 (s₁.setTop (mkF m 24 #[.val (.int q1), .val (.int q2), .val (.int q3), .val (.int q4), .val (.int q5), .val (.int k), .val (.int av), .unset, .unset, .unset, .unset, .unset, .unset, .unset, .unset, .unset, .unset, .unset, .unset, .unset, .unset, .unset, .unset, .unset] [])) := by rw [hav]; exact r97
  have r99 : Steps p.tables e below S0 (s₁.setTop (mkF m 29 #[.val (.int q1), .val (.int q2), .val (.int q3), .val (.int q4), .val (.int q5), .val (.int k), .val (.int av), .val (.int (q1 &&& (3 : Int32))), .unset, .unset, .unset, .unset, .unset, .unset, .unset, .unset, .unset, .unset, .unset, .unset, .unset, .unset, .unset, .unset] [])) := by
    refine r98.trans ?_
    show Steps p.tables e below (s₁.setTop (mkF m 24 #[.val (.int q1), .val (.int q2), .val (.int q3), .val (.int q4), .val (.int q5), .val (.int k), .val (.int av), .unset, .unset, .unset, .unset, .unset, .unset, .unset, .unset, .unset, .unset, .unset, .unset, .unset, .unset, .unset, .unset, .unset] [])) _
    refine XS.iloadN X0.here hx rfl (hb hby at_24) rfl ?_
    show Steps p.tables e below (s₁.setTop (mkF m 25 #[.val (.int q1), .val (.int q2), .val (.int q3), .val (.int q4), .val (.int q5), .val (.int k), .val (.int av), .unset, .unset, .unset, .unset, .unset, .unset, .unset, .unset, .unset, .unset, .unset, .unset, .unset, .unset, .unset, .unset, .unset] [(.int q1)])) _
    refine XS.iconst X0.here hx rfl (hb hby at_25) ?_
    show Steps p.tables e below (s₁.setTop (mkF m 26 #[.val (.int q1), .val (.int q2), .val (.int q3), .val (.int q4), .val (.int q5), .val (.int k), .val (.int av), .unset, .unset, .unset, .unset, .unset, .unset, .unset, .unset, .unset, .unset, .unset, .unset, .unset, .unset, .unset, .unset, .unset] [(.int (3 : Int32)), (.int q1)])) _
    refine XS.iand X0.here hx rfl (hb hby at_26) rfl ?_
    show Steps p.tables e below (s₁.setTop (mkF m 27 #[.val (.int q1), .val (.int q2), .val (.int q3), .val (.int q4), .val (.int q5), .val (.int k), .val (.int av), .unset, .unset, .unset, .unset, .unset, .unset, .unset, .unset, .unset, .unset, .unset, .unset, .unset, .unset, .unset, .unset, .unset] [(.int (q1 &&& (3 : Int32)))])) _
    refine XS.istore X0.here hx rfl (hb hby at_27) rfl (l' := #[.val (.int q1), .val (.int q2), .val (.int q3), .val (.int q4), .val (.int q5), .val (.int k), .val (.int av), .val (.int (q1 &&& (3 : Int32))), .unset, .unset, .unset, .unset, .unset, .unset, .unset, .unset, .unset, .unset, .unset, .unset, .unset, .unset, .unset, .unset]) rfl ?_
    exact Steps.refl _
  obtain ⟨p0, hp0⟩ : ∃ z, z = (q1 &&& (3 : Int32)) := ⟨_, rfl⟩
  have r100 : Steps p.tables e below S0 (s₁.setTop (mkF m 29 #[.val (.int q1), .val (.int q2), .val (.int q3), .val (.int q4), .val (.int q5), .val (.int k), .val (.int av), .val (.int p0), .unset, .unset, .unset, .unset, .unset, .unset, .unset, .unset, .unset, .unset, .unset, .unset, .unset, .unset, .unset, .unset] [])) := by rw [hp0]; exact r99
  have r101 : Steps p.tables e below S0 (s₁.setTop (mkF m 41 #[.val (.int q1), .val (.int q2), .val (.int q3), .val (.int q4), .val (.int q5), .val (.int k), .val (.int av), .val (.int p0), .val (.int ((p0 + (1 : Int32)) + (((q1.toUInt32 >>> ((2 : Int32) &&& 31).toUInt32).toInt32) &&& (3 : Int32)))), .unset, .unset, .unset, .unset, .unset, .unset, .unset, .unset, .unset, .unset, .unset, .unset, .unset, .unset, .unset] [])) := by
    refine r100.trans ?_
    show Steps p.tables e below (s₁.setTop (mkF m 29 #[.val (.int q1), .val (.int q2), .val (.int q3), .val (.int q4), .val (.int q5), .val (.int k), .val (.int av), .val (.int p0), .unset, .unset, .unset, .unset, .unset, .unset, .unset, .unset, .unset, .unset, .unset, .unset, .unset, .unset, .unset, .unset] [])) _
    refine XS.iload X0.here hx rfl (hb hby at_29) rfl ?_
    show Steps p.tables e below (s₁.setTop (mkF m 31 #[.val (.int q1), .val (.int q2), .val (.int q3), .val (.int q4), .val (.int q5), .val (.int k), .val (.int av), .val (.int p0), .unset, .unset, .unset, .unset, .unset, .unset, .unset, .unset, .unset, .unset, .unset, .unset, .unset, .unset, .unset, .unset] [(.int p0)])) _
    refine XS.iconst X0.here hx rfl (hb hby at_31) ?_
    show Steps p.tables e below (s₁.setTop (mkF m 32 #[.val (.int q1), .val (.int q2), .val (.int q3), .val (.int q4), .val (.int q5), .val (.int k), .val (.int av), .val (.int p0), .unset, .unset, .unset, .unset, .unset, .unset, .unset, .unset, .unset, .unset, .unset, .unset, .unset, .unset, .unset, .unset] [(.int (1 : Int32)), (.int p0)])) _
    refine XS.iadd X0.here hx rfl (hb hby at_32) rfl ?_
    show Steps p.tables e below (s₁.setTop (mkF m 33 #[.val (.int q1), .val (.int q2), .val (.int q3), .val (.int q4), .val (.int q5), .val (.int k), .val (.int av), .val (.int p0), .unset, .unset, .unset, .unset, .unset, .unset, .unset, .unset, .unset, .unset, .unset, .unset, .unset, .unset, .unset, .unset] [(.int (p0 + (1 : Int32)))])) _
    refine XS.iloadN X0.here hx rfl (hb hby at_33) rfl ?_
    show Steps p.tables e below (s₁.setTop (mkF m 34 #[.val (.int q1), .val (.int q2), .val (.int q3), .val (.int q4), .val (.int q5), .val (.int k), .val (.int av), .val (.int p0), .unset, .unset, .unset, .unset, .unset, .unset, .unset, .unset, .unset, .unset, .unset, .unset, .unset, .unset, .unset, .unset] [(.int q1), (.int (p0 + (1 : Int32)))])) _
    refine XS.iconst X0.here hx rfl (hb hby at_34) ?_
    show Steps p.tables e below (s₁.setTop (mkF m 35 #[.val (.int q1), .val (.int q2), .val (.int q3), .val (.int q4), .val (.int q5), .val (.int k), .val (.int av), .val (.int p0), .unset, .unset, .unset, .unset, .unset, .unset, .unset, .unset, .unset, .unset, .unset, .unset, .unset, .unset, .unset, .unset] [(.int (2 : Int32)), (.int q1), (.int (p0 + (1 : Int32)))])) _
    refine XS.iushr X0.here hx rfl (hb hby at_35) rfl ?_
    show Steps p.tables e below (s₁.setTop (mkF m 36 #[.val (.int q1), .val (.int q2), .val (.int q3), .val (.int q4), .val (.int q5), .val (.int k), .val (.int av), .val (.int p0), .unset, .unset, .unset, .unset, .unset, .unset, .unset, .unset, .unset, .unset, .unset, .unset, .unset, .unset, .unset, .unset] [(.int ((q1.toUInt32 >>> ((2 : Int32) &&& 31).toUInt32).toInt32)), (.int (p0 + (1 : Int32)))])) _
    refine XS.iconst X0.here hx rfl (hb hby at_36) ?_
    show Steps p.tables e below (s₁.setTop (mkF m 37 #[.val (.int q1), .val (.int q2), .val (.int q3), .val (.int q4), .val (.int q5), .val (.int k), .val (.int av), .val (.int p0), .unset, .unset, .unset, .unset, .unset, .unset, .unset, .unset, .unset, .unset, .unset, .unset, .unset, .unset, .unset, .unset] [(.int (3 : Int32)), (.int ((q1.toUInt32 >>> ((2 : Int32) &&& 31).toUInt32).toInt32)), (.int (p0 + (1 : Int32)))])) _
    refine XS.iand X0.here hx rfl (hb hby at_37) rfl ?_
    show Steps p.tables e below (s₁.setTop (mkF m 38 #[.val (.int q1), .val (.int q2), .val (.int q3), .val (.int q4), .val (.int q5), .val (.int k), .val (.int av), .val (.int p0), .unset, .unset, .unset, .unset, .unset, .unset, .unset, .unset, .unset, .unset, .unset, .unset, .unset, .unset, .unset, .unset] [(.int (((q1.toUInt32 >>> ((2 : Int32) &&& 31).toUInt32).toInt32) &&& (3 : Int32))), (.int (p0 + (1 : Int32)))])) _
    refine XS.iadd X0.here hx rfl (hb hby at_38) rfl ?_
    show Steps p.tables e below (s₁.setTop (mkF m 39 #[.val (.int q1), .val (.int q2), .val (.int q3), .val (.int q4), .val (.int q5), .val (.int k), .val (.int av), .val (.int p0), .unset, .unset, .unset, .unset, .unset, .unset, .unset, .unset, .unset, .unset, .unset, .unset, .unset, .unset, .unset, .unset] [(.int ((p0 + (1 : Int32)) + (((q1.toUInt32 >>> ((2 : Int32) &&& 31).toUInt32).toInt32) &&& (3 : Int32))))])) _
    refine XS.istore X0.here hx rfl (hb hby at_39) rfl (l' := #[.val (.int q1), .val (.int q2), .val (.int q3), .val (.int q4), .val (.int q5), .val (.int k), .val (.int av), .val (.int p0), .val (.int ((p0 + (1 : Int32)) + (((q1.toUInt32 >>> ((2 : Int32) &&& 31).toUInt32).toInt32) &&& (3 : Int32)))), .unset, .unset, .unset, .unset, .unset, .unset, .unset, .unset, .unset, .unset, .unset, .unset, .unset, .unset, .unset]) rfl ?_
    exact Steps.refl _
  obtain ⟨p1, hp1⟩ : ∃ z, z = ((p0 + (1 : Int32)) + (((q1.toUInt32 >>> ((2 : Int32) &&& 31).toUInt32).toInt32) &&& (3 : Int32))) := ⟨_, rfl⟩
  have r102 : Steps p.tables e below S0 (s₁.setTop (mkF m 41 #[.val (.int q1), .val (.int q2), .val (.int q3), .val (.int q4), .val (.int q5), .val (.int k), .val (.int av), .val (.int p0), .val (.int p1), .unset, .unset, .unset, .unset, .unset, .unset, .unset, .unset, .unset, .unset, .unset, .unset, .unset, .unset, .unset] [])) := by rw [hp1]; exact r101
  have r103 : Steps p.tables e below S0 (s₁.setTop (mkF m 53 #[.val (.int q1), .val (.int q2), .val (.int q3), .val (.int q4), .val (.int q5), .val (.int k), .val (.int av), .val (.int p0), .val (.int p1), .val (.int ((p1 + (1 : Int32)) + (((q1.toUInt32 >>> ((4 : Int32) &&& 31).toUInt32).toInt32) &&& (3 : Int32)))), .unset, .unset, .unset, .unset, .unset, .unset, .unset, .unset, .unset, .unset, .unset, .unset, .unset, .unset] [])) := by
    refine r102.trans ?_
    show Steps p.tables e below (s₁.setTop (mkF m 41 #[.val (.int q1), .val (.int q2), .val (.int q3), .val (.int q4), .val (.int q5), .val (.int k), .val (.int av), .val (.int p0), .val (.int p1), .unset, .unset, .unset, .unset, .unset, .unset, .unset, .unset, .unset, .unset, .unset, .unset, .unset, .unset, .unset] [])) _
    refine XS.iload X0.here hx rfl (hb hby at_41) rfl ?_
    show Steps p.tables e below (s₁.setTop (mkF m 43 #[.val (.int q1), .val (.int q2), .val (.int q3), .val (.int q4), .val (.int q5), .val (.int k), .val (.int av), .val (.int p0), .val (.int p1), .unset, .unset, .unset, .unset, .unset, .unset, .unset, .unset, .unset, .unset, .unset, .unset, .unset, .unset, .unset] [(.int p1)])) _
    refine XS.iconst X0.here hx rfl (hb hby at_43) ?_
    show Steps p.tables e below (s₁.setTop (mkF m 44 #[.val (.int q1), .val (.int q2), .val (.int q3), .val (.int q4), .val (.int q5), .val (.int k), .val (.int av), .val (.int p0), .val (.int p1), .unset, .unset, .unset, .unset, .unset, .unset, .unset, .unset, .unset, .unset, .unset, .unset, .unset, .unset, .unset] [(.int (1 : Int32)), (.int p1)])) _
    refine XS.iadd X0.here hx rfl (hb hby at_44) rfl ?_
    show Steps p.tables e below (s₁.setTop (mkF m 45 #[.val (.int q1), .val (.int q2), .val (.int q3), .val (.int q4), .val (.int q5), .val (.int k), .val (.int av), .val (.int p0), .val (.int p1), .unset, .unset, .unset, .unset, .unset, .unset, .unset, .unset, .unset, .unset, .unset, .unset, .unset, .unset, .unset] [(.int (p1 + (1 : Int32)))])) _
    refine XS.iloadN X0.here hx rfl (hb hby at_45) rfl ?_
    show Steps p.tables e below (s₁.setTop (mkF m 46 #[.val (.int q1), .val (.int q2), .val (.int q3), .val (.int q4), .val (.int q5), .val (.int k), .val (.int av), .val (.int p0), .val (.int p1), .unset, .unset, .unset, .unset, .unset, .unset, .unset, .unset, .unset, .unset, .unset, .unset, .unset, .unset, .unset] [(.int q1), (.int (p1 + (1 : Int32)))])) _
    refine XS.iconst X0.here hx rfl (hb hby at_46) ?_
    show Steps p.tables e below (s₁.setTop (mkF m 47 #[.val (.int q1), .val (.int q2), .val (.int q3), .val (.int q4), .val (.int q5), .val (.int k), .val (.int av), .val (.int p0), .val (.int p1), .unset, .unset, .unset, .unset, .unset, .unset, .unset, .unset, .unset, .unset, .unset, .unset, .unset, .unset, .unset] [(.int (4 : Int32)), (.int q1), (.int (p1 + (1 : Int32)))])) _
    refine XS.iushr X0.here hx rfl (hb hby at_47) rfl ?_
    show Steps p.tables e below (s₁.setTop (mkF m 48 #[.val (.int q1), .val (.int q2), .val (.int q3), .val (.int q4), .val (.int q5), .val (.int k), .val (.int av), .val (.int p0), .val (.int p1), .unset, .unset, .unset, .unset, .unset, .unset, .unset, .unset, .unset, .unset, .unset, .unset, .unset, .unset, .unset] [(.int ((q1.toUInt32 >>> ((4 : Int32) &&& 31).toUInt32).toInt32)), (.int (p1 + (1 : Int32)))])) _
    refine XS.iconst X0.here hx rfl (hb hby at_48) ?_
    show Steps p.tables e below (s₁.setTop (mkF m 49 #[.val (.int q1), .val (.int q2), .val (.int q3), .val (.int q4), .val (.int q5), .val (.int k), .val (.int av), .val (.int p0), .val (.int p1), .unset, .unset, .unset, .unset, .unset, .unset, .unset, .unset, .unset, .unset, .unset, .unset, .unset, .unset, .unset] [(.int (3 : Int32)), (.int ((q1.toUInt32 >>> ((4 : Int32) &&& 31).toUInt32).toInt32)), (.int (p1 + (1 : Int32)))])) _
    refine XS.iand X0.here hx rfl (hb hby at_49) rfl ?_
    show Steps p.tables e below (s₁.setTop (mkF m 50 #[.val (.int q1), .val (.int q2), .val (.int q3), .val (.int q4), .val (.int q5), .val (.int k), .val (.int av), .val (.int p0), .val (.int p1), .unset, .unset, .unset, .unset, .unset, .unset, .unset, .unset, .unset, .unset, .unset, .unset, .unset, .unset, .unset] [(.int (((q1.toUInt32 >>> ((4 : Int32) &&& 31).toUInt32).toInt32) &&& (3 : Int32))), (.int (p1 + (1 : Int32)))])) _
    refine XS.iadd X0.here hx rfl (hb hby at_50) rfl ?_
    show Steps p.tables e below (s₁.setTop (mkF m 51 #[.val (.int q1), .val (.int q2), .val (.int q3), .val (.int q4), .val (.int q5), .val (.int k), .val (.int av), .val (.int p0), .val (.int p1), .unset, .unset, .unset, .unset, .unset, .unset, .unset, .unset, .unset, .unset, .unset, .unset, .unset, .unset, .unset] [(.int ((p1 + (1 : Int32)) + (((q1.toUInt32 >>> ((4 : Int32) &&& 31).toUInt32).toInt32) &&& (3 : Int32))))])) _
    refine XS.istore X0.here hx rfl (hb hby at_51) rfl (l' := #[.val (.int q1), .val (.int q2), .val (.int q3), .val (.int q4), .val (.int q5), .val (.int k), .val (.int av), .val (.int p0), .val (.int p1), .val (.int ((p1 + (1 : Int32)) + (((q1.toUInt32 >>> ((4 : Int32) &&& 31).toUInt32).toInt32) &&& (3 : Int32)))), .unset, .unset, .unset, .unset, .unset, .unset, .unset, .unset, .unset, .unset, .unset, .unset, .unset, .unset]) rfl ?_
    exact Steps.refl _
  obtain ⟨p2, hp2⟩ : ∃ z, z = ((p1 + (1 : Int32)) + (((q1.toUInt32 >>> ((4 : Int32) &&& 31).toUInt32).toInt32) &&& (3 : Int32))) := ⟨_, rfl⟩
  have r104 : Steps p.tables e below S0 (s₁.setTop (mkF m 53 #[.val (.int q1), .val (.int q2), .val (.int q3), .val (.int q4), .val (.int q5), .val (.int k), .val (.int av), .val (.int p0), .val (.int p1), .val (.int p2), .unset, .unset, .unset, .unset, .unset, .unset, .unset, .unset, .unset, .unset, .unset, .unset, .unset, .unset] [])) := by rw [hp2]; exact r103
  have r105 : Steps p.tables e below S0 (s₁.setTop (mkF m 61 #[.val (.int q1), .val (.int q2), .val (.int q3), .val (.int q4), .val (.int q5), .val (.int k), .val (.int av), .val (.int p0), .val (.int p1), .val (.int p2), .val (.int (((q1.toUInt32 >>> ((6 : Int32) &&& 31).toUInt32).toInt32) &&& (3 : Int32))), .unset, .unset, .unset, .unset, .unset, .unset, .unset, .unset, .unset, .unset, .unset, .unset, .unset] [])) := by
    refine r104.trans ?_
    show Steps p.tables e below (s₁.setTop (mkF m 53 #[.val (.int q1), .val (.int q2), .val (.int q3), .val (.int q4), .val (.int q5), .val (.int k), .val (.int av), .val (.int p0), .val (.int p1), .val (.int p2), .unset, .unset, .unset, .unset, .unset, .unset, .unset, .unset, .unset, .unset, .unset, .unset, .unset, .unset] [])) _
    refine XS.iloadN X0.here hx rfl (hb hby at_53) rfl ?_
    show Steps p.tables e below (s₁.setTop (mkF m 54 #[.val (.int q1), .val (.int q2), .val (.int q3), .val (.int q4), .val (.int q5), .val (.int k), .val (.int av), .val (.int p0), .val (.int p1), .val (.int p2), .unset, .unset, .unset, .unset, .unset, .unset, .unset, .unset, .unset, .unset, .unset, .unset, .unset, .unset] [(.int q1)])) _
    refine XS.bipush X0.here hx rfl (hb hby at_54) ?_
    show Steps p.tables e below (s₁.setTop (mkF m 56 #[.val (.int q1), .val (.int q2), .val (.int q3), .val (.int q4), .val (.int q5), .val (.int k), .val (.int av), .val (.int p0), .val (.int p1), .val (.int p2), .unset, .unset, .unset, .unset, .unset, .unset, .unset, .unset, .unset, .unset, .unset, .unset, .unset, .unset] [(.int (6 : Int32)), (.int q1)])) _
    refine XS.iushr X0.here hx rfl (hb hby at_56) rfl ?_
    show Steps p.tables e below (s₁.setTop (mkF m 57 #[.val (.int q1), .val (.int q2), .val (.int q3), .val (.int q4), .val (.int q5), .val (.int k), .val (.int av), .val (.int p0), .val (.int p1), .val (.int p2), .unset, .unset, .unset, .unset, .unset, .unset, .unset, .unset, .unset, .unset, .unset, .unset, .unset, .unset] [(.int ((q1.toUInt32 >>> ((6 : Int32) &&& 31).toUInt32).toInt32))])) _
    refine XS.iconst X0.here hx rfl (hb hby at_57) ?_
    show Steps p.tables e below (s₁.setTop (mkF m 58 #[.val (.int q1), .val (.int q2), .val (.int q3), .val (.int q4), .val (.int q5), .val (.int k), .val (.int av), .val (.int p0), .val (.int p1), .val (.int p2), .unset, .unset, .unset, .unset, .unset, .unset, .unset, .unset, .unset, .unset, .unset, .unset, .unset, .unset] [(.int (3 : Int32)), (.int ((q1.toUInt32 >>> ((6 : Int32) &&& 31).toUInt32).toInt32))])) _
    refine XS.iand X0.here hx rfl (hb hby at_58) rfl ?_
    show Steps p.tables e below (s₁.setTop (mkF m 59 #[.val (.int q1), .val (.int q2), .val (.int q3), .val (.int q4), .val (.int q5), .val (.int k), .val (.int av), .val (.int p0), .val (.int p1), .val (.int p2), .unset, .unset, .unset, .unset, .unset, .unset, .unset, .unset, .unset, .unset, .unset, .unset, .unset, .unset] [(.int (((q1.toUInt32 >>> ((6 : Int32) &&& 31).toUInt32).toInt32) &&& (3 : Int32)))])) _
    refine XS.istore X0.here hx rfl (hb hby at_59) rfl (l' := #[.val (.int q1), .val (.int q2), .val (.int q3), .val (.int q4), .val (.int q5), .val (.int k), .val (.int av), .val (.int p0), .val (.int p1), .val (.int p2), .val (.int (((q1.toUInt32 >>> ((6 : Int32) &&& 31).toUInt32).toInt32) &&& (3 : Int32))), .unset, .unset, .unset, .unset, .unset, .unset, .unset, .unset, .unset, .unset, .unset, .unset, .unset]) rfl ?_
    exact Steps.refl _
  obtain ⟨xt, hxt⟩ : ∃ z, z = (((q1.toUInt32 >>> ((6 : Int32) &&& 31).toUInt32).toInt32) &&& (3 : Int32)) := ⟨_, rfl⟩
  have r106 : Steps p.tables e below S0 (s₁.setTop (mkF m 61 #[.val (.int q1), .val (.int q2), .val (.int q3), .val (.int q4), .val (.int q5), .val (.int k), .val (.int av), .val (.int p0), .val (.int p1), .val (.int p2), .val (.int xt), .unset, .unset, .unset, .unset, .unset, .unset, .unset, .unset, .unset, .unset, .unset, .unset, .unset] [])) := by rw [hxt]; exact r105
  have hk4 : k = 0 ∨ k = 1 ∨ k = 2 ∨ k = 3 := by rw [hk]; exact own_sel _
  have bp0 : 0 ≤ p0.toInt ∧ p0.toInt ≤ 3 := by rw [hp0]; exact own_m3 _
  have bp1 : p0.toInt < p1.toInt ∧ p1.toInt ≤ p0.toInt + 4 := by rw [hp1]; exact own_nx bp0.1 (by omega) _
  have bp2 : p1.toInt < p2.toInt ∧ p2.toInt ≤ p1.toInt + 4 := by rw [hp2]; exact own_nx (by omega) (by omega) _
  have bx : 0 ≤ xt.toInt ∧ xt.toInt ≤ 3 := by rw [hxt]; exact own_m3 _
  obtain ⟨lst, hlst, rL⟩ : ∃ lst : Int32, ((k = 0 ∧ lst.toInt = 0) ∨ (k = 1 ∧ lst.toInt = p0.toInt + 1) ∨ (k = 2 ∧ lst.toInt = p1.toInt + 1) ∨ (k = 3 ∧ lst.toInt = p2.toInt + 1)) ∧ Steps p.tables e below S0 (s₁.setTop (mkF m 102 #[.val (.int q1), .val (.int q2), .val (.int q3), .val (.int q4), .val (.int q5), .val (.int k), .val (.int av), .val (.int p0), .val (.int p1), .val (.int p2), .val (.int xt), .val (.int lst), .unset, .unset, .unset, .unset, .unset, .unset, .unset, .unset, .unset, .unset, .unset, .unset] [])) := by
    rcases hk4 with z | z | z | z
    · skip
      have r107 : Steps p.tables e below S0 (s₁.setTop (mkF m 102 #[.val (.int q1), .val (.int q2), .val (.int q3), .val (.int q4), .val (.int q5), .val (.int k), .val (.int av), .val (.int p0), .val (.int p1), .val (.int p2), .val (.int xt), .val (.int (0 : Int32)), .unset, .unset, .unset, .unset, .unset, .unset, .unset, .unset, .unset, .unset, .unset, .unset] [])) := by
        refine r106.trans ?_
        show Steps p.tables e below (s₁.setTop (mkF m 61 #[.val (.int q1), .val (.int q2), .val (.int q3), .val (.int q4), .val (.int q5), .val (.int k), .val (.int av), .val (.int p0), .val (.int p1), .val (.int p2), .val (.int xt), .unset, .unset, .unset, .unset, .unset, .unset, .unset, .unset, .unset, .unset, .unset, .unset, .unset] [])) _
        refine XS.iload X0.here hx rfl (hb hby at_61) rfl ?_
        show Steps p.tables e below (s₁.setTop (mkF m 63 #[.val (.int q1), .val (.int q2), .val (.int q3), .val (.int q4), .val (.int q5), .val (.int k), .val (.int av), .val (.int p0), .val (.int p1), .val (.int p2), .val (.int xt), .unset, .unset, .unset, .unset, .unset, .unset, .unset, .unset, .unset, .unset, .unset, .unset, .unset] [(.int k)])) _
        refine XS.ifNo X0.here hx rfl (hb hby at_63) rfl ((if0 _ _).trans (teq (by rw [z] <;> decide)).2) ?_
        show Steps p.tables e below (s₁.setTop (mkF m 66 #[.val (.int q1), .val (.int q2), .val (.int q3), .val (.int q4), .val (.int q5), .val (.int k), .val (.int av), .val (.int p0), .val (.int p1), .val (.int p2), .val (.int xt), .unset, .unset, .unset, .unset, .unset, .unset, .unset, .unset, .unset, .unset, .unset, .unset, .unset] [])) _
        refine XS.iconst X0.here hx rfl (hb hby at_66) ?_
        show Steps p.tables e below (s₁.setTop (mkF m 67 #[.val (.int q1), .val (.int q2), .val (.int q3), .val (.int q4), .val (.int q5), .val (.int k), .val (.int av), .val (.int p0), .val (.int p1), .val (.int p2), .val (.int xt), .unset, .unset, .unset, .unset, .unset, .unset, .unset, .unset, .unset, .unset, .unset, .unset, .unset] [(.int (0 : Int32))])) _
        refine XS.goto X0.here hx rfl (pc0 := 67) (pc' := 100) rfl (hb hby at_67) (by decide) (by decide) ?_
        show Steps p.tables e below (s₁.setTop (mkF m 100 #[.val (.int q1), .val (.int q2), .val (.int q3), .val (.int q4), .val (.int q5), .val (.int k), .val (.int av), .val (.int p0), .val (.int p1), .val (.int p2), .val (.int xt), .unset, .unset, .unset, .unset, .unset, .unset, .unset, .unset, .unset, .unset, .unset, .unset, .unset] [(.int (0 : Int32))])) _
        refine XS.istore X0.here hx rfl (hb hby at_100) rfl (l' := #[.val (.int q1), .val (.int q2), .val (.int q3), .val (.int q4), .val (.int q5), .val (.int k), .val (.int av), .val (.int p0), .val (.int p1), .val (.int p2), .val (.int xt), .val (.int (0 : Int32)), .unset, .unset, .unset, .unset, .unset, .unset, .unset, .unset, .unset, .unset, .unset, .unset]) rfl ?_
        exact Steps.refl _
      exact ⟨_, Or.inl ⟨z, by decide⟩, r107⟩
    · skip
      have r108 : Steps p.tables e below S0 (s₁.setTop (mkF m 102 #[.val (.int q1), .val (.int q2), .val (.int q3), .val (.int q4), .val (.int q5), .val (.int k), .val (.int av), .val (.int p0), .val (.int p1), .val (.int p2), .val (.int xt), .val (.int (p0 + (1 : Int32))), .unset, .unset, .unset, .unset, .unset, .unset, .unset, .unset, .unset, .unset, .unset, .unset] [])) := by
        refine r106.trans ?_
        show Steps p.tables e below (s₁.setTop (mkF m 61 #[.val (.int q1), .val (.int q2), .val (.int q3), .val (.int q4), .val (.int q5), .val (.int k), .val (.int av), .val (.int p0), .val (.int p1), .val (.int p2), .val (.int xt), .unset, .unset, .unset, .unset, .unset, .unset, .unset, .unset, .unset, .unset, .unset, .unset, .unset] [])) _
        refine XS.iload X0.here hx rfl (hb hby at_61) rfl ?_
        show Steps p.tables e below (s₁.setTop (mkF m 63 #[.val (.int q1), .val (.int q2), .val (.int q3), .val (.int q4), .val (.int q5), .val (.int k), .val (.int av), .val (.int p0), .val (.int p1), .val (.int p2), .val (.int xt), .unset, .unset, .unset, .unset, .unset, .unset, .unset, .unset, .unset, .unset, .unset, .unset, .unset] [(.int k)])) _
        refine XS.ifYes X0.here hx rfl (pc0 := 63) (pc' := 70) rfl (hb hby at_63) rfl ((if0 _ _).trans (feq (by rw [z] <;> decide)).2) (by decide) (by decide) ?_
        show Steps p.tables e below (s₁.setTop (mkF m 70 #[.val (.int q1), .val (.int q2), .val (.int q3), .val (.int q4), .val (.int q5), .val (.int k), .val (.int av), .val (.int p0), .val (.int p1), .val (.int p2), .val (.int xt), .unset, .unset, .unset, .unset, .unset, .unset, .unset, .unset, .unset, .unset, .unset, .unset, .unset] [])) _
        refine XS.iload X0.here hx rfl (hb hby at_70) rfl ?_
        show Steps p.tables e below (s₁.setTop (mkF m 72 #[.val (.int q1), .val (.int q2), .val (.int q3), .val (.int q4), .val (.int q5), .val (.int k), .val (.int av), .val (.int p0), .val (.int p1), .val (.int p2), .val (.int xt), .unset, .unset, .unset, .unset, .unset, .unset, .unset, .unset, .unset, .unset, .unset, .unset, .unset] [(.int k)])) _
        refine XS.iconst X0.here hx rfl (hb hby at_72) ?_
        show Steps p.tables e below (s₁.setTop (mkF m 73 #[.val (.int q1), .val (.int q2), .val (.int q3), .val (.int q4), .val (.int q5), .val (.int k), .val (.int av), .val (.int p0), .val (.int p1), .val (.int p2), .val (.int xt), .unset, .unset, .unset, .unset, .unset, .unset, .unset, .unset, .unset, .unset, .unset, .unset, .unset] [(.int (1 : Int32)), (.int k)])) _
        refine XS.icmpNo X0.here hx rfl (hb hby at_73) rfl (teq (by rw [z] <;> decide)).2 ?_
        show Steps p.tables e below (s₁.setTop (mkF m 76 #[.val (.int q1), .val (.int q2), .val (.int q3), .val (.int q4), .val (.int q5), .val (.int k), .val (.int av), .val (.int p0), .val (.int p1), .val (.int p2), .val (.int xt), .unset, .unset, .unset, .unset, .unset, .unset, .unset, .unset, .unset, .unset, .unset, .unset, .unset] [])) _
        refine XS.iload X0.here hx rfl (hb hby at_76) rfl ?_
        show Steps p.tables e below (s₁.setTop (mkF m 78 #[.val (.int q1), .val (.int q2), .val (.int q3), .val (.int q4), .val (.int q5), .val (.int k), .val (.int av), .val (.int p0), .val (.int p1), .val (.int p2), .val (.int xt), .unset, .unset, .unset, .unset, .unset, .unset, .unset, .unset, .unset, .unset, .unset, .unset, .unset] [(.int p0)])) _
        refine XS.iconst X0.here hx rfl (hb hby at_78) ?_
        show Steps p.tables e below (s₁.setTop (mkF m 79 #[.val (.int q1), .val (.int q2), .val (.int q3), .val (.int q4), .val (.int q5), .val (.int k), .val (.int av), .val (.int p0), .val (.int p1), .val (.int p2), .val (.int xt), .unset, .unset, .unset, .unset, .unset, .unset, .unset, .unset, .unset, .unset, .unset, .unset, .unset] [(.int (1 : Int32)), (.int p0)])) _
        refine XS.iadd X0.here hx rfl (hb hby at_79) rfl ?_
        show Steps p.tables e below (s₁.setTop (mkF m 80 #[.val (.int q1), .val (.int q2), .val (.int q3), .val (.int q4), .val (.int q5), .val (.int k), .val (.int av), .val (.int p0), .val (.int p1), .val (.int p2), .val (.int xt), .unset, .unset, .unset, .unset, .unset, .unset, .unset, .unset, .unset, .unset, .unset, .unset, .unset] [(.int (p0 + (1 : Int32)))])) _
        refine XS.goto X0.here hx rfl (pc0 := 80) (pc' := 100) rfl (hb hby at_80) (by decide) (by decide) ?_
        show Steps p.tables e below (s₁.setTop (mkF m 100 #[.val (.int q1), .val (.int q2), .val (.int q3), .val (.int q4), .val (.int q5), .val (.int k), .val (.int av), .val (.int p0), .val (.int p1), .val (.int p2), .val (.int xt), .unset, .unset, .unset, .unset, .unset, .unset, .unset, .unset, .unset, .unset, .unset, .unset, .unset] [(.int (p0 + (1 : Int32)))])) _
        refine XS.istore X0.here hx rfl (hb hby at_100) rfl (l' := #[.val (.int q1), .val (.int q2), .val (.int q3), .val (.int q4), .val (.int q5), .val (.int k), .val (.int av), .val (.int p0), .val (.int p1), .val (.int p2), .val (.int xt), .val (.int (p0 + (1 : Int32))), .unset, .unset, .unset, .unset, .unset, .unset, .unset, .unset, .unset, .unset, .unset, .unset]) rfl ?_
        exact Steps.refl _
      exact ⟨_, Or.inr (Or.inl ⟨z, own_p1 (by omega) (by omega)⟩), r108⟩
    · skip
      have r109 : Steps p.tables e below S0 (s₁.setTop (mkF m 102 #[.val (.int q1), .val (.int q2), .val (.int q3), .val (.int q4), .val (.int q5), .val (.int k), .val (.int av), .val (.int p0), .val (.int p1), .val (.int p2), .val (.int xt), .val (.int (p1 + (1 : Int32))), .unset, .unset, .unset, .unset, .unset, .unset, .unset, .unset, .unset, .unset, .unset, .unset] [])) := by
        refine r106.trans ?_
        show Steps p.tables e below (s₁.setTop (mkF m 61 #[.val (.int q1), .val (.int q2), .val (.int q3), .val (.int q4), .val (.int q5), .val (.int k), .val (.int av), .val (.int p0), .val (.int p1), .val (.int p2), .val (.int xt), .unset, .unset, .unset, .unset, .unset, .unset, .unset, .unset, .unset, .unset, .unset, .unset, .unset] [])) _
        refine XS.iload X0.here hx rfl (hb hby at_61) rfl ?_
        show Steps p.tables e below (s₁.setTop (mkF m 63 #[.val (.int q1), .val (.int q2), .val (.int q3), .val (.int q4), .val (.int q5), .val (.int k), .val (.int av), .val (.int p0), .val (.int p1), .val (.int p2), .val (.int xt), .unset, .unset, .unset, .unset, .unset, .unset, .unset, .unset, .unset, .unset, .unset, .unset, .unset] [(.int k)])) _
        refine XS.ifYes X0.here hx rfl (pc0 := 63) (pc' := 70) rfl (hb hby at_63) rfl ((if0 _ _).trans (feq (by rw [z] <;> decide)).2) (by decide) (by decide) ?_
        show Steps p.tables e below (s₁.setTop (mkF m 70 #[.val (.int q1), .val (.int q2), .val (.int q3), .val (.int q4), .val (.int q5), .val (.int k), .val (.int av), .val (.int p0), .val (.int p1), .val (.int p2), .val (.int xt), .unset, .unset, .unset, .unset, .unset, .unset, .unset, .unset, .unset, .unset, .unset, .unset, .unset] [])) _
        refine XS.iload X0.here hx rfl (hb hby at_70) rfl ?_
        show Steps p.tables e below (s₁.setTop (mkF m 72 #[.val (.int q1), .val (.int q2), .val (.int q3), .val (.int q4), .val (.int q5), .val (.int k), .val (.int av), .val (.int p0), .val (.int p1), .val (.int p2), .val (.int xt), .unset, .unset, .unset, .unset, .unset, .unset, .unset, .unset, .unset, .unset, .unset, .unset, .unset] [(.int k)])) _
        refine XS.iconst X0.here hx rfl (hb hby at_72) ?_
        show Steps p.tables e below (s₁.setTop (mkF m 73 #[.val (.int q1), .val (.int q2), .val (.int q3), .val (.int q4), .val (.int q5), .val (.int k), .val (.int av), .val (.int p0), .val (.int p1), .val (.int p2), .val (.int xt), .unset, .unset, .unset, .unset, .unset, .unset, .unset, .unset, .unset, .unset, .unset, .unset, .unset] [(.int (1 : Int32)), (.int k)])) _
        refine XS.icmpYes X0.here hx rfl (pc0 := 73) (pc' := 83) rfl (hb hby at_73) rfl (feq (by rw [z] <;> decide)).2 (by decide) (by decide) ?_
        show Steps p.tables e below (s₁.setTop (mkF m 83 #[.val (.int q1), .val (.int q2), .val (.int q3), .val (.int q4), .val (.int q5), .val (.int k), .val (.int av), .val (.int p0), .val (.int p1), .val (.int p2), .val (.int xt), .unset, .unset, .unset, .unset, .unset, .unset, .unset, .unset, .unset, .unset, .unset, .unset, .unset] [])) _
        refine XS.iload X0.here hx rfl (hb hby at_83) rfl ?_
        show Steps p.tables e below (s₁.setTop (mkF m 85 #[.val (.int q1), .val (.int q2), .val (.int q3), .val (.int q4), .val (.int q5), .val (.int k), .val (.int av), .val (.int p0), .val (.int p1), .val (.int p2), .val (.int xt), .unset, .unset, .unset, .unset, .unset, .unset, .unset, .unset, .unset, .unset, .unset, .unset, .unset] [(.int k)])) _
        refine XS.iconst X0.here hx rfl (hb hby at_85) ?_
        show Steps p.tables e below (s₁.setTop (mkF m 86 #[.val (.int q1), .val (.int q2), .val (.int q3), .val (.int q4), .val (.int q5), .val (.int k), .val (.int av), .val (.int p0), .val (.int p1), .val (.int p2), .val (.int xt), .unset, .unset, .unset, .unset, .unset, .unset, .unset, .unset, .unset, .unset, .unset, .unset, .unset] [(.int (2 : Int32)), (.int k)])) _
        refine XS.icmpNo X0.here hx rfl (hb hby at_86) rfl (teq (by rw [z] <;> decide)).2 ?_
        show Steps p.tables e below (s₁.setTop (mkF m 89 #[.val (.int q1), .val (.int q2), .val (.int q3), .val (.int q4), .val (.int q5), .val (.int k), .val (.int av), .val (.int p0), .val (.int p1), .val (.int p2), .val (.int xt), .unset, .unset, .unset, .unset, .unset, .unset, .unset, .unset, .unset, .unset, .unset, .unset, .unset] [])) _
        refine XS.iload X0.here hx rfl (hb hby at_89) rfl ?_
        show Steps p.tables e below (s₁.setTop (mkF m 91 #[.val (.int q1), .val (.int q2), .val (.int q3), .val (.int q4), .val (.int q5), .val (.int k), .val (.int av), .val (.int p0), .val (.int p1), .val (.int p2), .val (.int xt), .unset, .unset, .unset, .unset, .unset, .unset, .unset, .unset, .unset, .unset, .unset, .unset, .unset] [(.int p1)])) _
        refine XS.iconst X0.here hx rfl (hb hby at_91) ?_
        show Steps p.tables e below (s₁.setTop (mkF m 92 #[.val (.int q1), .val (.int q2), .val (.int q3), .val (.int q4), .val (.int q5), .val (.int k), .val (.int av), .val (.int p0), .val (.int p1), .val (.int p2), .val (.int xt), .unset, .unset, .unset, .unset, .unset, .unset, .unset, .unset, .unset, .unset, .unset, .unset, .unset] [(.int (1 : Int32)), (.int p1)])) _
        refine XS.iadd X0.here hx rfl (hb hby at_92) rfl ?_
        show Steps p.tables e below (s₁.setTop (mkF m 93 #[.val (.int q1), .val (.int q2), .val (.int q3), .val (.int q4), .val (.int q5), .val (.int k), .val (.int av), .val (.int p0), .val (.int p1), .val (.int p2), .val (.int xt), .unset, .unset, .unset, .unset, .unset, .unset, .unset, .unset, .unset, .unset, .unset, .unset, .unset] [(.int (p1 + (1 : Int32)))])) _
        refine XS.goto X0.here hx rfl (pc0 := 93) (pc' := 100) rfl (hb hby at_93) (by decide) (by decide) ?_
        show Steps p.tables e below (s₁.setTop (mkF m 100 #[.val (.int q1), .val (.int q2), .val (.int q3), .val (.int q4), .val (.int q5), .val (.int k), .val (.int av), .val (.int p0), .val (.int p1), .val (.int p2), .val (.int xt), .unset, .unset, .unset, .unset, .unset, .unset, .unset, .unset, .unset, .unset, .unset, .unset, .unset] [(.int (p1 + (1 : Int32)))])) _
        refine XS.istore X0.here hx rfl (hb hby at_100) rfl (l' := #[.val (.int q1), .val (.int q2), .val (.int q3), .val (.int q4), .val (.int q5), .val (.int k), .val (.int av), .val (.int p0), .val (.int p1), .val (.int p2), .val (.int xt), .val (.int (p1 + (1 : Int32))), .unset, .unset, .unset, .unset, .unset, .unset, .unset, .unset, .unset, .unset, .unset, .unset]) rfl ?_
        exact Steps.refl _
      exact ⟨_, Or.inr (Or.inr (Or.inl ⟨z, own_p1 (by omega) (by omega)⟩)), r109⟩
    · skip
      have r110 : Steps p.tables e below S0 (s₁.setTop (mkF m 102 #[.val (.int q1), .val (.int q2), .val (.int q3), .val (.int q4), .val (.int q5), .val (.int k), .val (.int av), .val (.int p0), .val (.int p1), .val (.int p2), .val (.int xt), .val (.int (p2 + (1 : Int32))), .unset, .unset, .unset, .unset, .unset, .unset, .unset, .unset, .unset, .unset, .unset, .unset] [])) := by
        refine r106.trans ?_
        show Steps p.tables e below (s₁.setTop (mkF m 61 #[.val (.int q1), .val (.int q2), .val (.int q3), .val (.int q4), .val (.int q5), .val (.int k), .val (.int av), .val (.int p0), .val (.int p1), .val (.int p2), .val (.int xt), .unset, .unset, .unset, .unset, .unset, .unset, .unset, .unset, .unset, .unset, .unset, .unset, .unset] [])) _
        refine XS.iload X0.here hx rfl (hb hby at_61) rfl ?_
        show Steps p.tables e below (s₁.setTop (mkF m 63 #[.val (.int q1), .val (.int q2), .val (.int q3), .val (.int q4), .val (.int q5), .val (.int k), .val (.int av), .val (.int p0), .val (.int p1), .val (.int p2), .val (.int xt), .unset, .unset, .unset, .unset, .unset, .unset, .unset, .unset, .unset, .unset, .unset, .unset, .unset] [(.int k)])) _
        refine XS.ifYes X0.here hx rfl (pc0 := 63) (pc' := 70) rfl (hb hby at_63) rfl ((if0 _ _).trans (feq (by rw [z] <;> decide)).2) (by decide) (by decide) ?_
        show Steps p.tables e below (s₁.setTop (mkF m 70 #[.val (.int q1), .val (.int q2), .val (.int q3), .val (.int q4), .val (.int q5), .val (.int k), .val (.int av), .val (.int p0), .val (.int p1), .val (.int p2), .val (.int xt), .unset, .unset, .unset, .unset, .unset, .unset, .unset, .unset, .unset, .unset, .unset, .unset, .unset] [])) _
        refine XS.iload X0.here hx rfl (hb hby at_70) rfl ?_
        show Steps p.tables e below (s₁.setTop (mkF m 72 #[.val (.int q1), .val (.int q2), .val (.int q3), .val (.int q4), .val (.int q5), .val (.int k), .val (.int av), .val (.int p0), .val (.int p1), .val (.int p2), .val (.int xt), .unset, .unset, .unset, .unset, .unset, .unset, .unset, .unset, .unset, .unset, .unset, .unset, .unset] [(.int k)])) _
        refine XS.iconst X0.here hx rfl (hb hby at_72) ?_
        show Steps p.tables e below (s₁.setTop (mkF m 73 #[.val (.int q1), .val (.int q2), .val (.int q3), .val (.int q4), .val (.int q5), .val (.int k), .val (.int av), .val (.int p0), .val (.int p1), .val (.int p2), .val (.int xt), .unset, .unset, .unset, .unset, .unset, .unset, .unset, .unset, .unset, .unset, .unset, .unset, .unset] [(.int (1 : Int32)), (.int k)])) _
        refine XS.icmpYes X0.here hx rfl (pc0 := 73) (pc' := 83) rfl (hb hby at_73) rfl (feq (by rw [z] <;> decide)).2 (by decide) (by decide) ?_
        show Steps p.tables e below (s₁.setTop (mkF m 83 #[.val (.int q1), .val (.int q2), .val (.int q3), .val (.int q4), .val (.int q5), .val (.int k), .val (.int av), .val (.int p0), .val (.int p1), .val (.int p2), .val (.int xt), .unset, .unset, .unset, .unset, .unset, .unset, .unset, .unset, .unset, .unset, .unset, .unset, .unset] [])) _
        refine XS.iload X0.here hx rfl (hb hby at_83) rfl ?_
        show Steps p.tables e below (s₁.setTop (mkF m 85 #[.val (.int q1), .val (.int q2), .val (.int q3), .val (.int q4), .val (.int q5), .val (.int k), .val (.int av), .val (.int p0), .val (.int p1), .val (.int p2), .val (.int xt), .unset, .unset, .unset, .unset, .unset, .unset, .unset, .unset, .unset, .unset, .unset, .unset, .unset] [(.int k)])) _
        refine XS.iconst X0.here hx rfl (hb hby at_85) ?_
        show Steps p.tables e below (s₁.setTop (mkF m 86 #[.val (.int q1), .val (.int q2), .val (.int q3), .val (.int q4), .val (.int q5), .val (.int k), .val (.int av), .val (.int p0), .val (.int p1), .val (.int p2), .val (.int xt), .unset, .unset, .unset, .unset, .unset, .unset, .unset, .unset, .unset, .unset, .unset, .unset, .unset] [(.int (2 : Int32)), (.int k)])) _
        refine XS.icmpYes X0.here hx rfl (pc0 := 86) (pc' := 96) rfl (hb hby at_86) rfl (feq (by rw [z] <;> decide)).2 (by decide) (by decide) ?_
        show Steps p.tables e below (s₁.setTop (mkF m 96 #[.val (.int q1), .val (.int q2), .val (.int q3), .val (.int q4), .val (.int q5), .val (.int k), .val (.int av), .val (.int p0), .val (.int p1), .val (.int p2), .val (.int xt), .unset, .unset, .unset, .unset, .unset, .unset, .unset, .unset, .unset, .unset, .unset, .unset, .unset] [])) _
        refine XS.iload X0.here hx rfl (hb hby at_96) rfl ?_
        show Steps p.tables e below (s₁.setTop (mkF m 98 #[.val (.int q1), .val (.int q2), .val (.int q3), .val (.int q4), .val (.int q5), .val (.int k), .val (.int av), .val (.int p0), .val (.int p1), .val (.int p2), .val (.int xt), .unset, .unset, .unset, .unset, .unset, .unset, .unset, .unset, .unset, .unset, .unset, .unset, .unset] [(.int p2)])) _
        refine XS.iconst X0.here hx rfl (hb hby at_98) ?_
        show Steps p.tables e below (s₁.setTop (mkF m 99 #[.val (.int q1), .val (.int q2), .val (.int q3), .val (.int q4), .val (.int q5), .val (.int k), .val (.int av), .val (.int p0), .val (.int p1), .val (.int p2), .val (.int xt), .unset, .unset, .unset, .unset, .unset, .unset, .unset, .unset, .unset, .unset, .unset, .unset, .unset] [(.int (1 : Int32)), (.int p2)])) _
        refine XS.iadd X0.here hx rfl (hb hby at_99) rfl ?_
        show Steps p.tables e below (s₁.setTop (mkF m 100 #[.val (.int q1), .val (.int q2), .val (.int q3), .val (.int q4), .val (.int q5), .val (.int k), .val (.int av), .val (.int p0), .val (.int p1), .val (.int p2), .val (.int xt), .unset, .unset, .unset, .unset, .unset, .unset, .unset, .unset, .unset, .unset, .unset, .unset, .unset] [(.int (p2 + (1 : Int32)))])) _
        refine XS.istore X0.here hx rfl (hb hby at_100) rfl (l' := #[.val (.int q1), .val (.int q2), .val (.int q3), .val (.int q4), .val (.int q5), .val (.int k), .val (.int av), .val (.int p0), .val (.int p1), .val (.int p2), .val (.int xt), .val (.int (p2 + (1 : Int32))), .unset, .unset, .unset, .unset, .unset, .unset, .unset, .unset, .unset, .unset, .unset, .unset]) rfl ?_
        exact Steps.refl _
      exact ⟨_, Or.inr (Or.inr (Or.inr ⟨z, own_p1 (by omega) (by omega)⟩)), r110⟩
  have r111 : Steps p.tables e below S0 (s₁.setTop (mkF m 109 #[.val (.int q1), .val (.int q2), .val (.int q3), .val (.int q4), .val (.int q5), .val (.int k), .val (.int av), .val (.int p0), .val (.int p1), .val (.int p2), .val (.int xt), .val (.int lst), .val (.int (lst + xt)), .unset, .unset, .unset, .unset, .unset, .unset, .unset, .unset, .unset, .unset, .unset] [])) := by
    refine rL.trans ?_
    show Steps p.tables e below (s₁.setTop (mkF m 102 #[.val (.int q1), .val (.int q2), .val (.int q3), .val (.int q4), .val (.int q5), .val (.int k), .val (.int av), .val (.int p0), .val (.int p1), .val (.int p2), .val (.int xt), .val (.int lst), .unset, .unset, .unset, .unset, .unset, .unset, .unset, .unset, .unset, .unset, .unset, .unset] [])) _
    refine XS.iload X0.here hx rfl (hb hby at_102) rfl ?_
    show Steps p.tables e below (s₁.setTop (mkF m 104 #[.val (.int q1), .val (.int q2), .val (.int q3), .val (.int q4), .val (.int q5), .val (.int k), .val (.int av), .val (.int p0), .val (.int p1), .val (.int p2), .val (.int xt), .val (.int lst), .unset, .unset, .unset, .unset, .unset, .unset, .unset, .unset, .unset, .unset, .unset, .unset] [(.int lst)])) _
    refine XS.iload X0.here hx rfl (hb hby at_104) rfl ?_
    show Steps p.tables e below (s₁.setTop (mkF m 106 #[.val (.int q1), .val (.int q2), .val (.int q3), .val (.int q4), .val (.int q5), .val (.int k), .val (.int av), .val (.int p0), .val (.int p1), .val (.int p2), .val (.int xt), .val (.int lst), .unset, .unset, .unset, .unset, .unset, .unset, .unset, .unset, .unset, .unset, .unset, .unset] [(.int xt), (.int lst)])) _
    refine XS.iadd X0.here hx rfl (hb hby at_106) rfl ?_
    show Steps p.tables e below (s₁.setTop (mkF m 107 #[.val (.int q1), .val (.int q2), .val (.int q3), .val (.int q4), .val (.int q5), .val (.int k), .val (.int av), .val (.int p0), .val (.int p1), .val (.int p2), .val (.int xt), .val (.int lst), .unset, .unset, .unset, .unset, .unset, .unset, .unset, .unset, .unset, .unset, .unset, .unset] [(.int (lst + xt))])) _
    refine XS.istore X0.here hx rfl (hb hby at_107) rfl (l' := #[.val (.int q1), .val (.int q2), .val (.int q3), .val (.int q4), .val (.int q5), .val (.int k), .val (.int av), .val (.int p0), .val (.int p1), .val (.int p2), .val (.int xt), .val (.int lst), .val (.int (lst + xt)), .unset, .unset, .unset, .unset, .unset, .unset, .unset, .unset, .unset, .unset, .unset]) rfl ?_
    exact Steps.refl _
  obtain ⟨dm, hdm⟩ : ∃ z, z = (lst + xt) := ⟨_, rfl⟩
  have r112 : Steps p.tables e below S0 (s₁.setTop (mkF m 109 #[.val (.int q1), .val (.int q2), .val (.int q3), .val (.int q4), .val (.int q5), .val (.int k), .val (.int av), .val (.int p0), .val (.int p1), .val (.int p2), .val (.int xt), .val (.int lst), .val (.int dm), .unset, .unset, .unset, .unset, .unset, .unset, .unset, .unset, .unset, .unset, .unset] [])) := by rw [hdm]; exact r111
  have tdm : dm.toInt = lst.toInt + xt.toInt := by rw [hdm]; have q := c_iadd lst xt; have := rng32 (lst + xt); omega
  have bdm : 0 ≤ dm.toInt ∧ dm.toInt ≤ 15 := by omega
  have r113 : Steps p.tables e below S0 (s₁.setTop (mkF m 113 #[.val (.int q1), .val (.int q2), .val (.int q3), .val (.int q4), .val (.int q5), .val (.int k), .val (.int av), .val (.int p0), .val (.int p1), .val (.int p2), .val (.int xt), .val (.int lst), .val (.int dm), .val (.double (FP.i2d q2)), .second, .unset, .unset, .unset, .unset, .unset, .unset, .unset, .unset, .unset] [])) := by
    refine r112.trans ?_
    show Steps p.tables e below (s₁.setTop (mkF m 109 #[.val (.int q1), .val (.int q2), .val (.int q3), .val (.int q4), .val (.int q5), .val (.int k), .val (.int av), .val (.int p0), .val (.int p1), .val (.int p2), .val (.int xt), .val (.int lst), .val (.int dm), .unset, .unset, .unset, .unset, .unset, .unset, .unset, .unset, .unset, .unset, .unset] [])) _
    refine XS.iloadN X0.here hx rfl (hb hby at_109) rfl ?_
    show Steps p.tables e below (s₁.setTop (mkF m 110 #[.val (.int q1), .val (.int q2), .val (.int q3), .val (.int q4), .val (.int q5), .val (.int k), .val (.int av), .val (.int p0), .val (.int p1), .val (.int p2), .val (.int xt), .val (.int lst), .val (.int dm), .unset, .unset, .unset, .unset, .unset, .unset, .unset, .unset, .unset, .unset, .unset] [(.int q2)])) _
    refine XS.i2dS X0.here hx rfl (hb hby at_110) rfl rfl ?_
    show Steps p.tables e below (s₁.setTop (mkF m 111 #[.val (.int q1), .val (.int q2), .val (.int q3), .val (.int q4), .val (.int q5), .val (.int k), .val (.int av), .val (.int p0), .val (.int p1), .val (.int p2), .val (.int xt), .val (.int lst), .val (.int dm), .unset, .unset, .unset, .unset, .unset, .unset, .unset, .unset, .unset, .unset, .unset] [(.double (FP.i2d q2))])) _
    refine XS.dstore X0.here hx rfl (hb hby at_111) rfl (l' := #[.val (.int q1), .val (.int q2), .val (.int q3), .val (.int q4), .val (.int q5), .val (.int k), .val (.int av), .val (.int p0), .val (.int p1), .val (.int p2), .val (.int xt), .val (.int lst), .val (.int dm), .val (.double (FP.i2d q2)), .second, .unset, .unset, .unset, .unset, .unset, .unset, .unset, .unset, .unset]) rfl ?_
    exact Steps.refl _
  obtain ⟨v0, hv0⟩ : ∃ z, z = (FP.i2d q2) := ⟨_, rfl⟩
  have r114 : Steps p.tables e below S0 (s₁.setTop (mkF m 113 #[.val (.int q1), .val (.int q2), .val (.int q3), .val (.int q4), .val (.int q5), .val (.int k), .val (.int av), .val (.int p0), .val (.int p1), .val (.int p2), .val (.int xt), .val (.int lst), .val (.int dm), .val (.double v0), .second, .unset, .unset, .unset, .unset, .unset, .unset, .unset, .unset, .unset] [])) := by rw [hv0]; exact r113
  have r115 : Steps p.tables e below S0 (s₁.setTop (mkF m 117 #[.val (.int q1), .val (.int q2), .val (.int q3), .val (.int q4), .val (.int q5), .val (.int k), .val (.int av), .val (.int p0), .val (.int p1), .val (.int p2), .val (.int xt), .val (.int lst), .val (.int dm), .val (.double v0), .second, .val (.double (FP.i2d q3)), .second, .unset, .unset, .unset, .unset, .unset, .unset, .unset] [])) := by
    refine r114.trans ?_
    show Steps p.tables e below (s₁.setTop (mkF m 113 #[.val (.int q1), .val (.int q2), .val (.int q3), .val (.int q4), .val (.int q5), .val (.int k), .val (.int av), .val (.int p0), .val (.int p1), .val (.int p2), .val (.int xt), .val (.int lst), .val (.int dm), .val (.double v0), .second, .unset, .unset, .unset, .unset, .unset, .unset, .unset, .unset, .unset] [])) _
    refine XS.iloadN X0.here hx rfl (hb hby at_113) rfl ?_
    show Steps p.tables e below (s₁.setTop (mkF m 114 #[.val (.int q1), .val (.int q2), .val (.int q3), .val (.int q4), .val (.int q5), .val (.int k), .val (.int av), .val (.int p0), .val (.int p1), .val (.int p2), .val (.int xt), .val (.int lst), .val (.int dm), .val (.double v0), .second, .unset, .unset, .unset, .unset, .unset, .unset, .unset, .unset, .unset] [(.int q3)])) _
    refine XS.i2dS X0.here hx rfl (hb hby at_114) rfl rfl ?_
    show Steps p.tables e below (s₁.setTop (mkF m 115 #[.val (.int q1), .val (.int q2), .val (.int q3), .val (.int q4), .val (.int q5), .val (.int k), .val (.int av), .val (.int p0), .val (.int p1), .val (.int p2), .val (.int xt), .val (.int lst), .val (.int dm), .val (.double v0), .second, .unset, .unset, .unset, .unset, .unset, .unset, .unset, .unset, .unset] [(.double (FP.i2d q3))])) _
    refine XS.dstore X0.here hx rfl (hb hby at_115) rfl (l' := #[.val (.int q1), .val (.int q2), .val (.int q3), .val (.int q4), .val (.int q5), .val (.int k), .val (.int av), .val (.int p0), .val (.int p1), .val (.int p2), .val (.int xt), .val (.int lst), .val (.int dm), .val (.double v0), .second, .val (.double (FP.i2d q3)), .second, .unset, .unset, .unset, .unset, .unset, .unset, .unset]) rfl ?_
    exact Steps.refl _
  obtain ⟨v1, hv1⟩ : ∃ z, z = (FP.i2d q3) := ⟨_, rfl⟩
  have r116 : Steps p.tables e below S0 (s₁.setTop (mkF m 117 #[.val (.int q1), .val (.int q2), .val (.int q3), .val (.int q4), .val (.int q5), .val (.int k), .val (.int av), .val (.int p0), .val (.int p1), .val (.int p2), .val (.int xt), .val (.int lst), .val (.int dm), .val (.double v0), .second, .val (.double v1), .second, .unset, .unset, .unset, .unset, .unset, .unset, .unset] [])) := by rw [hv1]; exact r115
  have r117 : Steps p.tables e below S0 (s₁.setTop (mkF m 121 #[.val (.int q1), .val (.int q2), .val (.int q3), .val (.int q4), .val (.int q5), .val (.int k), .val (.int av), .val (.int p0), .val (.int p1), .val (.int p2), .val (.int xt), .val (.int lst), .val (.int dm), .val (.double v0), .second, .val (.double v1), .second, .val (.double (FP.i2d q4)), .second, .unset, .unset, .unset, .unset, .unset] [])) := by
    refine r116.trans ?_
    show Steps p.tables e below (s₁.setTop (mkF m 117 #[.val (.int q1), .val (.int q2), .val (.int q3), .val (.int q4), .val (.int q5), .val (.int k), .val (.int av), .val (.int p0), .val (.int p1), .val (.int p2), .val (.int xt), .val (.int lst), .val (.int dm), .val (.double v0), .second, .val (.double v1), .second, .unset, .unset, .unset, .unset, .unset, .unset, .unset] [])) _
    refine XS.iloadN X0.here hx rfl (hb hby at_117) rfl ?_
    show Steps p.tables e below (s₁.setTop (mkF m 118 #[.val (.int q1), .val (.int q2), .val (.int q3), .val (.int q4), .val (.int q5), .val (.int k), .val (.int av), .val (.int p0), .val (.int p1), .val (.int p2), .val (.int xt), .val (.int lst), .val (.int dm), .val (.double v0), .second, .val (.double v1), .second, .unset, .unset, .unset, .unset, .unset, .unset, .unset] [(.int q4)])) _
    refine XS.i2dS X0.here hx rfl (hb hby at_118) rfl rfl ?_
    show Steps p.tables e below (s₁.setTop (mkF m 119 #[.val (.int q1), .val (.int q2), .val (.int q3), .val (.int q4), .val (.int q5), .val (.int k), .val (.int av), .val (.int p0), .val (.int p1), .val (.int p2), .val (.int xt), .val (.int lst), .val (.int dm), .val (.double v0), .second, .val (.double v1), .second, .unset, .unset, .unset, .unset, .unset, .unset, .unset] [(.double (FP.i2d q4))])) _
    refine XS.dstore X0.here hx rfl (hb hby at_119) rfl (l' := #[.val (.int q1), .val (.int q2), .val (.int q3), .val (.int q4), .val (.int q5), .val (.int k), .val (.int av), .val (.int p0), .val (.int p1), .val (.int p2), .val (.int xt), .val (.int lst), .val (.int dm), .val (.double v0), .second, .val (.double v1), .second, .val (.double (FP.i2d q4)), .second, .unset, .unset, .unset, .unset, .unset]) rfl ?_
    exact Steps.refl _
  obtain ⟨v2, hv2⟩ : ∃ z, z = (FP.i2d q4) := ⟨_, rfl⟩
  have r118 : Steps p.tables e below S0 (s₁.setTop (mkF m 121 #[.val (.int q1), .val (.int q2), .val (.int q3), .val (.int q4), .val (.int q5), .val (.int k), .val (.int av), .val (.int p0), .val (.int p1), .val (.int p2), .val (.int xt), .val (.int lst), .val (.int dm), .val (.double v0), .second, .val (.double v1), .second, .val (.double v2), .second, .unset, .unset, .unset, .unset, .unset] [])) := by rw [hv2]; exact r117
  have r119 : Steps p.tables e below S0 (s₁.setTop (mkF m 126 #[.val (.int q1), .val (.int q2), .val (.int q3), .val (.int q4), .val (.int q5), .val (.int k), .val (.int av), .val (.int p0), .val (.int p1), .val (.int p2), .val (.int xt), .val (.int lst), .val (.int dm), .val (.double v0), .second, .val (.double v1), .second, .val (.double v2), .second, .val (.double (FP.i2d q5)), .second, .unset, .unset, .unset] [])) := by
    refine r118.trans ?_
    show Steps p.tables e below (s₁.setTop (mkF m 121 #[.val (.int q1), .val (.int q2), .val (.int q3), .val (.int q4), .val (.int q5), .val (.int k), .val (.int av), .val (.int p0), .val (.int p1), .val (.int p2), .val (.int xt), .val (.int lst), .val (.int dm), .val (.double v0), .second, .val (.double v1), .second, .val (.double v2), .second, .unset, .unset, .unset, .unset, .unset] [])) _
    refine XS.iload X0.here hx rfl (hb hby at_121) rfl ?_
    show Steps p.tables e below (s₁.setTop (mkF m 123 #[.val (.int q1), .val (.int q2), .val (.int q3), .val (.int q4), .val (.int q5), .val (.int k), .val (.int av), .val (.int p0), .val (.int p1), .val (.int p2), .val (.int xt), .val (.int lst), .val (.int dm), .val (.double v0), .second, .val (.double v1), .second, .val (.double v2), .second, .unset, .unset, .unset, .unset, .unset] [(.int q5)])) _
    refine XS.i2dS X0.here hx rfl (hb hby at_123) rfl rfl ?_
    show Steps p.tables e below (s₁.setTop (mkF m 124 #[.val (.int q1), .val (.int q2), .val (.int q3), .val (.int q4), .val (.int q5), .val (.int k), .val (.int av), .val (.int p0), .val (.int p1), .val (.int p2), .val (.int xt), .val (.int lst), .val (.int dm), .val (.double v0), .second, .val (.double v1), .second, .val (.double v2), .second, .unset, .unset, .unset, .unset, .unset] [(.double (FP.i2d q5))])) _
    refine XS.dstore X0.here hx rfl (hb hby at_124) rfl (l' := #[.val (.int q1), .val (.int q2), .val (.int q3), .val (.int q4), .val (.int q5), .val (.int k), .val (.int av), .val (.int p0), .val (.int p1), .val (.int p2), .val (.int xt), .val (.int lst), .val (.int dm), .val (.double v0), .second, .val (.double v1), .second, .val (.double v2), .second, .val (.double (FP.i2d q5)), .second, .unset, .unset, .unset]) rfl ?_
    exact Steps.refl _
  obtain ⟨jk, hjk⟩ : ∃ z, z = (FP.i2d q5) := ⟨_, rfl⟩
  have r120 : Steps p.tables e below S0 (s₁.setTop (mkF m 126 #[.val (.int q1), .val (.int q2), .val (.int q3), .val (.int q4), .val (.int q5), .val (.int k), .val (.int av), .val (.int p0), .val (.int p1), .val (.int p2), .val (.int xt), .val (.int lst), .val (.int dm), .val (.double v0), .second, .val (.double v1), .second, .val (.double v2), .second, .val (.double jk), .second, .unset, .unset, .unset] [])) := by rw [hjk]; exact r119
  have r121 : Steps p.tables e below S0 (s₁.setTop (mkF m 128 #[.val (.int q1), .val (.int q2), .val (.int q3), .val (.int q4), .val (.int q5), .val (.int k), .val (.int av), .val (.int p0), .val (.int p1), .val (.int p2), .val (.int xt), .val (.int lst), .val (.int dm), .val (.double v0), .second, .val (.double v1), .second, .val (.double v2), .second, .val (.double jk), .second, .unset, .unset, .unset] [(.int av)])) := by
    refine r120.trans ?_
    show Steps p.tables e below (s₁.setTop (mkF m 126 #[.val (.int q1), .val (.int q2), .val (.int q3), .val (.int q4), .val (.int q5), .val (.int k), .val (.int av), .val (.int p0), .val (.int p1), .val (.int p2), .val (.int xt), .val (.int lst), .val (.int dm), .val (.double v0), .second, .val (.double v1), .second, .val (.double v2), .second, .val (.double jk), .second, .unset, .unset, .unset] [])) _
    refine XS.iload X0.here hx rfl (hb hby at_126) rfl ?_
    exact Steps.refl _
  obtain ⟨TM, hM, LM, sv, c1, c2, XM, eM, NM, ZM, hne, GM, rM⟩ : ∃ (T' : State) (h' : Heap) (L' : List Loc) (sv c1 c2 : Addr), Stand p l e room_1 s m #[(.int q1), (.int q2), (.int q3), (.int q4), (.int q5)] below meth c T' L' 7 50 ∧ T'.heap = h' ∧ Fr n0 L' ∧ n0 ≤ h'.size ∧ c1 ≠ c2 ∧ Gar Z h' c1 .double dm.toNatClampNeg (fun i => .double (own_c k p0 p1 p2 v0 v1 v2 i)) ∧ Steps p.tables e below S0 (T'.setTop (mkF m 376 #[.val (.int q1), .val (.int q2), .val (.int q3), .val (.int q4), .val (.int q5), .val (.int k), .val (.int av), .val (.int p0), .val (.int p1), .val (.int p2), .val (.int xt), .val (.int lst), .val (.int dm), .val (.double v0), .second, .val (.double v1), .second, .val (.double v2), .second, .val (.double jk), .second, .val (.ref sv), .val (.ref c1), .val (.ref c2)] [])) := by
    by_cases hav : av = (0 : Int32)
    · rcases hk4 with z | z | z | z
      · skip
        have hl : lst.toInt = 0 := by rcases hlst with ⟨y, h_⟩ | ⟨y, h_⟩ | ⟨y, h_⟩ | ⟨y, h_⟩ <;> first | exact h_ | exact absurd (z.symm.trans y) (by decide)
        have r122 : Steps p.tables e below S0 (s₁.setTop (mkF m 213 #[.val (.int q1), .val (.int q2), .val (.int q3), .val (.int q4), .val (.int q5), .val (.int k), .val (.int av), .val (.int p0), .val (.int p1), .val (.int p2), .val (.int xt), .val (.int lst), .val (.int dm), .val (.double v0), .second, .val (.double v1), .second, .val (.double v2), .second, .val (.double jk), .second, .unset, .unset, .unset] [])) := by
          refine r121.trans ?_
          show Steps p.tables e below (s₁.setTop (mkF m 128 #[.val (.int q1), .val (.int q2), .val (.int q3), .val (.int q4), .val (.int q5), .val (.int k), .val (.int av), .val (.int p0), .val (.int p1), .val (.int p2), .val (.int xt), .val (.int lst), .val (.int dm), .val (.double v0), .second, .val (.double v1), .second, .val (.double v2), .second, .val (.double jk), .second, .unset, .unset, .unset] [(.int av)])) _
          refine XS.ifYes X0.here hx rfl (pc0 := 128) (pc' := 208) rfl (hb hby at_128) rfl ((if0 _ _).trans (teq hav).1) (by decide) (by decide) ?_
          show Steps p.tables e below (s₁.setTop (mkF m 208 #[.val (.int q1), .val (.int q2), .val (.int q3), .val (.int q4), .val (.int q5), .val (.int k), .val (.int av), .val (.int p0), .val (.int p1), .val (.int p2), .val (.int xt), .val (.int lst), .val (.int dm), .val (.double v0), .second, .val (.double v1), .second, .val (.double v2), .second, .val (.double jk), .second, .unset, .unset, .unset] [])) _
          refine XS.iload X0.here hx rfl (hb hby at_208) rfl ?_
          show Steps p.tables e below (s₁.setTop (mkF m 210 #[.val (.int q1), .val (.int q2), .val (.int q3), .val (.int q4), .val (.int q5), .val (.int k), .val (.int av), .val (.int p0), .val (.int p1), .val (.int p2), .val (.int xt), .val (.int lst), .val (.int dm), .val (.double v0), .second, .val (.double v1), .second, .val (.double v2), .second, .val (.double jk), .second, .unset, .unset, .unset] [(.int k)])) _
          refine XS.ifNo X0.here hx rfl (hb hby at_210) rfl ((if0 _ _).trans (teq (by rw [z] <;> decide)).2) ?_
          exact Steps.refl _
        obtain ⟨T123, h123, X123, e123, E123, A123, D123, -, st123⟩ := newO X0 hx hZ hown (hw _ (List.mem_of_getElem? (i := 0) rfl)) (hw _ (List.mem_of_getElem? (i := 1) rfl)) (hw _ (List.mem_of_getElem? (i := 2) rfl)) e0 (g := (mkF m 213 #[.val (.int q1), .val (.int q2), .val (.int q3), .val (.int q4), .val (.int q5), .val (.int k), .val (.int av), .val (.int p0), .val (.int p1), .val (.int p2), .val (.int xt), .val (.int lst), .val (.int dm), .val (.double v0), .second, .val (.double v1), .second, .val (.double v2), .second, .val (.double jk), .second, .unset, .unset, .unset] [])) rfl (hb hby at_213) (by decide) (by decide)
        obtain ⟨po, g123⟩ : ∃ z, z = h0.size := ⟨_, rfl⟩
        rw [← g123] at A123 D123 st123
        have g_po : n0 ≤ po := Nat.le_trans Z0 (Nat.le_of_eq g123.symm)
        have Z123 : n0 ≤ h123.size := Nat.le_trans Z0 E123.1
        have F_po_dimension : Fld Z h123 po "com/example/polytome/polytome/model/SparseVector" "dimension" "I" (.int (0 : Int32)) := D123 (Or.inr (hw _ (List.mem_of_getElem? (i := 30) rfl))) (ty := .int) (by decide)
        have F_po_positions : Fld Z h123 po "com/example/polytome/polytome/model/SparseVector" "positions" "[I" .null := D123 (Or.inr (hw _ (List.mem_of_getElem? (i := 32) rfl))) (ty := (.array .int)) (by decide)
        have F_po_values : Fld Z h123 po "com/example/polytome/polytome/model/SparseVector" "values" "[D" .null := D123 (Or.inr (hw _ (List.mem_of_getElem? (i := 34) rfl))) (ty := (.array .double)) (by decide)
        have F_po_from : Fld Z h123 po "com/example/polytome/polytome/model/SparseVector" "from" "I" (.int (0 : Int32)) := D123 (Or.inr (hw _ (List.mem_of_getElem? (i := 36) rfl))) (ty := .int) (by decide)
        have F_po_to : Fld Z h123 po "com/example/polytome/polytome/model/SparseVector" "to" "I" (.int (0 : Int32)) := D123 (Or.inr (hw _ (List.mem_of_getElem? (i := 38) rfl))) (ty := .int) (by decide)
        have r124 : Steps p.tables e below S0 (T123.setTop (mkF m 216 #[.val (.int q1), .val (.int q2), .val (.int q3), .val (.int q4), .val (.int q5), .val (.int k), .val (.int av), .val (.int p0), .val (.int p1), .val (.int p2), .val (.int xt), .val (.int lst), .val (.int dm), .val (.double v0), .second, .val (.double v1), .second, .val (.double v2), .second, .val (.double jk), .second, .unset, .unset, .unset] [(.ref po)])) := r122.trans (st123 _ (Steps.refl _))
        have r125 : Steps p.tables e below S0 (T123.setTop (mkF m 220 #[.val (.int q1), .val (.int q2), .val (.int q3), .val (.int q4), .val (.int q5), .val (.int k), .val (.int av), .val (.int p0), .val (.int p1), .val (.int p2), .val (.int xt), .val (.int lst), .val (.int dm), .val (.double v0), .second, .val (.double v1), .second, .val (.double v2), .second, .val (.double jk), .second, .unset, .unset, .unset] [(.int (0 : Int32)), (.int dm), (.ref po), (.ref po)])) := by
          refine r124.trans ?_
          show Steps p.tables e below (T123.setTop (mkF m 216 #[.val (.int q1), .val (.int q2), .val (.int q3), .val (.int q4), .val (.int q5), .val (.int k), .val (.int av), .val (.int p0), .val (.int p1), .val (.int p2), .val (.int xt), .val (.int lst), .val (.int dm), .val (.double v0), .second, .val (.double v1), .second, .val (.double v2), .second, .val (.double jk), .second, .unset, .unset, .unset] [(.ref po)])) _
          refine XS.dup X123.here hx rfl (hb hby at_216) rfl rfl ?_
          show Steps p.tables e below (T123.setTop (mkF m 217 #[.val (.int q1), .val (.int q2), .val (.int q3), .val (.int q4), .val (.int q5), .val (.int k), .val (.int av), .val (.int p0), .val (.int p1), .val (.int p2), .val (.int xt), .val (.int lst), .val (.int dm), .val (.double v0), .second, .val (.double v1), .second, .val (.double v2), .second, .val (.double jk), .second, .unset, .unset, .unset] [(.ref po), (.ref po)])) _
          refine XS.iload X123.here hx rfl (hb hby at_217) rfl ?_
          show Steps p.tables e below (T123.setTop (mkF m 219 #[.val (.int q1), .val (.int q2), .val (.int q3), .val (.int q4), .val (.int q5), .val (.int k), .val (.int av), .val (.int p0), .val (.int p1), .val (.int p2), .val (.int xt), .val (.int lst), .val (.int dm), .val (.double v0), .second, .val (.double v1), .second, .val (.double v2), .second, .val (.double jk), .second, .unset, .unset, .unset] [(.int dm), (.ref po), (.ref po)])) _
          refine XS.iconst X123.here hx rfl (hb hby at_219) ?_
          exact Steps.refl _
        obtain ⟨T126, h126, k126, X126, e126, E126, A126, B126, st126⟩ := newPE X123 hx hZ (hw _ (List.mem_of_getElem? (i := 3) rfl)) e123 (g := (mkF m 220 #[.val (.int q1), .val (.int q2), .val (.int q3), .val (.int q4), .val (.int q5), .val (.int k), .val (.int av), .val (.int p0), .val (.int p1), .val (.int p2), .val (.int xt), .val (.int lst), .val (.int dm), .val (.double v0), .second, .val (.double v1), .second, .val (.double v2), .second, .val (.double jk), .second, .unset, .unset, .unset] [(.int (0 : Int32)), (.int dm), (.ref po), (.ref po)])) rfl (hb hby at_220) rfl (by decide) (cap := 0) (by decide) (by decide) (by decide) (by decide) (ad := "[I") (by decide)
        obtain ⟨ps, g126⟩ : ∃ z, z = h123.size := ⟨_, rfl⟩
        rw [← g126] at A126 B126 st126
        have ne_po_ps : po ≠ ps := Nat.ne_of_lt (by rw [g126]; exact A123.lt)
        have G_ps : Gar Z h126 ps .int ((0 : Int32)).toNatClampNeg (fun _ => defaultValue .int) := Gar.new A126
        have g_ps : n0 ≤ ps := Nat.le_trans Z123 (Nat.le_of_eq g126.symm)
        have F126_po_dimension := F_po_dimension.ext E126
        have F126_po_positions := F_po_positions.ext E126
        have F126_po_values := F_po_values.ext E126
        have F126_po_from := F_po_from.ext E126
        have F126_po_to := F_po_to.ext E126
        have E126_po := A123.ext E126
        have Z126 : n0 ≤ h126.size := Nat.le_trans Z123 E126.1
        have r127 : Steps p.tables e below S0 (T126.setTop (mkF m 222 #[.val (.int q1), .val (.int q2), .val (.int q3), .val (.int q4), .val (.int q5), .val (.int k), .val (.int av), .val (.int p0), .val (.int p1), .val (.int p2), .val (.int xt), .val (.int lst), .val (.int dm), .val (.double v0), .second, .val (.double v1), .second, .val (.double v2), .second, .val (.double jk), .second, .unset, .unset, .unset] [(.ref ps), (.int dm), (.ref po), (.ref po)])) := r125.trans (st126 _ (Steps.refl _))
        have r128 : Steps p.tables e below S0 (T126.setTop (mkF m 223 #[.val (.int q1), .val (.int q2), .val (.int q3), .val (.int q4), .val (.int q5), .val (.int k), .val (.int av), .val (.int p0), .val (.int p1), .val (.int p2), .val (.int xt), .val (.int lst), .val (.int dm), .val (.double v0), .second, .val (.double v1), .second, .val (.double v2), .second, .val (.double jk), .second, .unset, .unset, .unset] [(.int (0 : Int32)), (.ref ps), (.int dm), (.ref po), (.ref po)])) := by
          refine r127.trans ?_
          show Steps p.tables e below (T126.setTop (mkF m 222 #[.val (.int q1), .val (.int q2), .val (.int q3), .val (.int q4), .val (.int q5), .val (.int k), .val (.int av), .val (.int p0), .val (.int p1), .val (.int p2), .val (.int xt), .val (.int lst), .val (.int dm), .val (.double v0), .second, .val (.double v1), .second, .val (.double v2), .second, .val (.double jk), .second, .unset, .unset, .unset] [(.ref ps), (.int dm), (.ref po), (.ref po)])) _
          refine XS.iconst X126.here hx rfl (hb hby at_222) ?_
          exact Steps.refl _
        obtain ⟨T129, h129, k129, X129, e129, E129, A129, B129, st129⟩ := newPE X126 hx hZ (hw _ (List.mem_of_getElem? (i := 4) rfl)) e126 (g := (mkF m 223 #[.val (.int q1), .val (.int q2), .val (.int q3), .val (.int q4), .val (.int q5), .val (.int k), .val (.int av), .val (.int p0), .val (.int p1), .val (.int p2), .val (.int xt), .val (.int lst), .val (.int dm), .val (.double v0), .second, .val (.double v1), .second, .val (.double v2), .second, .val (.double jk), .second, .unset, .unset, .unset] [(.int (0 : Int32)), (.ref ps), (.int dm), (.ref po), (.ref po)])) rfl (hb hby at_223) rfl (by decide) (cap := 0) (by decide) (by decide) (by decide) (by decide) (ad := "[D") (by decide)
        obtain ⟨vs, g129⟩ : ∃ z, z = h126.size := ⟨_, rfl⟩
        rw [← g129] at A129 B129 st129
        have ne_ps_vs : ps ≠ vs := Nat.ne_of_lt (by rw [g129]; exact G_ps.lt)
        have ne_po_vs : po ≠ vs := Nat.ne_of_lt (by rw [g129]; exact E126_po.lt)
        have G_vs : Gar Z h129 vs .double ((0 : Int32)).toNatClampNeg (fun _ => defaultValue .double) := Gar.new A129
        have g_vs : n0 ≤ vs := Nat.le_trans Z126 (Nat.le_of_eq g129.symm)
        have G129_ps := G_ps.ext E129
        have F129_po_dimension := F126_po_dimension.ext E129
        have F129_po_positions := F126_po_positions.ext E129
        have F129_po_values := F126_po_values.ext E129
        have F129_po_from := F126_po_from.ext E129
        have F129_po_to := F126_po_to.ext E129
        have E129_po := E126_po.ext E129
        have E129_ps := B126.ext E129
        have Z129 : n0 ≤ h129.size := Nat.le_trans Z126 E129.1
        have r130 : Steps p.tables e below S0 (T129.setTop (mkF m 225 #[.val (.int q1), .val (.int q2), .val (.int q3), .val (.int q4), .val (.int q5), .val (.int k), .val (.int av), .val (.int p0), .val (.int p1), .val (.int p2), .val (.int xt), .val (.int lst), .val (.int dm), .val (.double v0), .second, .val (.double v1), .second, .val (.double v2), .second, .val (.double jk), .second, .unset, .unset, .unset] [(.ref vs), (.ref ps), (.int dm), (.ref po), (.ref po)])) := r128.trans (st129 _ (Steps.refl _))
        have tk0 : (0 : Int32).toNatClampNeg = 0 := by decide
        have GP : Gar Z h129 ps .int (0 : Int32).toNatClampNeg (fun i => .int (own_p p0 p1 p2 i)) := G129_ps.congr (fun i hi => by
            rw [tk0] at hi
            omega)
        have GV : Gar Z h129 vs .double (0 : Int32).toNatClampNeg (fun i => .double (own_v v0 v1 v2 i)) := G_vs.congr (fun i hi => by
            rw [tk0] at hi
            omega)
        have posp : ∀ i : Nat, (i : Int) < (0 : Int32).toInt → 0 ≤ (own_p p0 p1 p2 i).toInt ∧ (own_p p0 p1 p2 i).toInt < dm.toInt := by
          intro i hi
          rw [show (0 : Int32).toInt = 0 by decide] at hi
          omega
        have incp : ∀ i : Nat, (i : Int) + 1 < (0 : Int32).toInt → (own_p p0 p1 p2 i).toInt < (own_p p0 p1 p2 (i + 1)).toInt := by
          intro i hi
          rw [show (0 : Int32).toInt = 0 by decide] at hi
          omega
        obtain ⟨_, _, ⟨T131, L131, k131, n131⟩, -, X131, ⟨Lc131, hQ131, l131, y131, z131⟩, st131⟩ := X129.specialBack hx (y := (⟨"com/example/polytome/polytome/model/SparseVector", "<init>", "(I[I[D)V"⟩ : MethodName)) rfl hown (mvT hZ (hw _ (List.mem_of_getElem? (i := 5) rfl))) (mvT hZ (hw _ (List.mem_of_getElem? (i := 6) rfl))) (mvT hZ (hw _ (List.mem_of_getElem? (i := 7) rfl))) (by decide) (backOf (W := 1) (rm3 l Z a0 hw [] po dm ps vs (0 : Int32) (own_p p0 p1 p2) (own_v v0 v1 v2) h129 n0 Z129 E129_po g_po F129_po_dimension F129_po_positions F129_po_values F129_po_from F129_po_to GP GV E129_ps B129 ne_po_ps ne_po_vs (by decide) posp incp) hZ (hw _ (List.mem_of_getElem? (i := 7) rfl)) (hw _ (List.mem_of_getElem? (i := 2) rfl)) (by decide) (by decide)) (g := (mkF m 225 #[.val (.int q1), .val (.int q2), .val (.int q3), .val (.int q4), .val (.int q5), .val (.int k), .val (.int av), .val (.int p0), .val (.int p1), .val (.int p2), .val (.int xt), .val (.int lst), .val (.int dm), .val (.double v0), .second, .val (.double v1), .second, .val (.double v2), .second, .val (.double jk), .second, .unset, .unset, .unset] [(.ref vs), (.ref ps), (.int dm), (.ref po), (.ref po)])) rfl (by rw [hml]; rfl) (Steps.refl _) (a := po) (argsL := [(.int dm), (.ref ps), (.ref vs)]) (rest := [(.ref po)]) (lenOf pd_2 rfl) rfl (by show 2 * 0 + _ ≤ _; exact Nat.le_of_eq rfl) (hb hby at_225) (fun _ _ => ⟨rfl, e129, (by decide : (((0 + 1) + 1) + 1) + 2 ≤ _), (by decide : (((0 + 5) + 0) + 0) + 6 ≤ _)⟩)
        dsimp only [Pt.U, Pt.locs, Pt.cells, Pt.slots] at X131 l131 y131 z131 st131 hQ131
        subst l131 y131 z131
        obtain ⟨rfl, Nq131, b1, b2, hSV, GP1, GV1, ZZ⟩ := hQ131
        have N131 := Fr.app N0 Nq131
        have r132 : Steps p.tables e below S0 (T131.setTop (mkF m 228 #[.val (.int q1), .val (.int q2), .val (.int q3), .val (.int q4), .val (.int q5), .val (.int k), .val (.int av), .val (.int p0), .val (.int p1), .val (.int p2), .val (.int xt), .val (.int lst), .val (.int dm), .val (.double v0), .second, .val (.double v1), .second, .val (.double v2), .second, .val (.double jk), .second, .unset, .unset, .unset] [(.ref po)])) := r130.trans st131
        have hrng : ∀ i : Nat, (0 : Int32).toInt ≤ (i : Int) → (i : Int) < (0 : Int32).toInt → 0 ≤ ((own_p p0 p1 p2) i).toInt ∧ ((own_p p0 p1 p2) i).toInt < dm.toInt := by
          intro i h1 h2
          rw [show (0 : Int32).toInt = 0 by first | decide | (rw [z]; decide)] at h1
          rw [show (0 : Int32).toInt = 0 by first | decide | (rw [z]; decide)] at h2
          omega
        have r133 : Steps p.tables e below S0 (T131.setTop (mkF m 364 #[.val (.int q1), .val (.int q2), .val (.int q3), .val (.int q4), .val (.int q5), .val (.int k), .val (.int av), .val (.int p0), .val (.int p1), .val (.int p2), .val (.int xt), .val (.int lst), .val (.int dm), .val (.double v0), .second, .val (.double v1), .second, .val (.double v2), .second, .val (.double jk), .second, .val (.ref po), .unset, .unset] [(.ref po)])) := by
          refine r132.trans ?_
          show Steps p.tables e below (T131.setTop (mkF m 228 #[.val (.int q1), .val (.int q2), .val (.int q3), .val (.int q4), .val (.int q5), .val (.int k), .val (.int av), .val (.int p0), .val (.int p1), .val (.int p2), .val (.int xt), .val (.int lst), .val (.int dm), .val (.double v0), .second, .val (.double v1), .second, .val (.double v2), .second, .val (.double jk), .second, .unset, .unset, .unset] [(.ref po)])) _
          refine XS.astore X131.here hx rfl (hb hby at_228) rfl rfl (l' := #[.val (.int q1), .val (.int q2), .val (.int q3), .val (.int q4), .val (.int q5), .val (.int k), .val (.int av), .val (.int p0), .val (.int p1), .val (.int p2), .val (.int xt), .val (.int lst), .val (.int dm), .val (.double v0), .second, .val (.double v1), .second, .val (.double v2), .second, .val (.double jk), .second, .val (.ref po), .unset, .unset]) rfl ?_
          show Steps p.tables e below (T131.setTop (mkF m 230 #[.val (.int q1), .val (.int q2), .val (.int q3), .val (.int q4), .val (.int q5), .val (.int k), .val (.int av), .val (.int p0), .val (.int p1), .val (.int p2), .val (.int xt), .val (.int lst), .val (.int dm), .val (.double v0), .second, .val (.double v1), .second, .val (.double v2), .second, .val (.double jk), .second, .val (.ref po), .unset, .unset] [])) _
          refine XS.goto X131.here hx rfl (pc0 := 230) (pc' := 362) rfl (hb hby at_230) (by decide) (by decide) ?_
          show Steps p.tables e below (T131.setTop (mkF m 362 #[.val (.int q1), .val (.int q2), .val (.int q3), .val (.int q4), .val (.int q5), .val (.int k), .val (.int av), .val (.int p0), .val (.int p1), .val (.int p2), .val (.int xt), .val (.int lst), .val (.int dm), .val (.double v0), .second, .val (.double v1), .second, .val (.double v2), .second, .val (.double jk), .second, .val (.ref po), .unset, .unset] [])) _
          refine XS.aload X131.here hx rfl (hb hby at_362) rfl rfl ?_
          exact Steps.refl _
        obtain ⟨cq134, kq134, q134a, q134b, q134c⟩ := isOf hZ rfl hSV.1
        obtain ⟨_, _, ⟨T134, L134, k134, n134⟩, -, X134, ⟨Lc134, hQ134, l134, y134, z134⟩, st134⟩ := X131.virtualBack hx (y := (⟨"com/example/polytome/polytome/model/SparseVector", "toArray", "()[D"⟩ : MethodName)) (z := (⟨"com/example/polytome/polytome/model/SparseVector", "toArray", "()[D"⟩ : MethodName)) hown (mvT hZ (hw _ (List.mem_of_getElem? (i := 39) rfl))) (mvT hZ (hw _ (List.mem_of_getElem? (i := 40) rfl))) (notFace_of_selects (args := #[]) (mvT hZ (hw _ (List.mem_of_getElem? (i := 42) rfl)))) (mvT hZ (hw _ (List.mem_of_getElem? (i := 42) rfl))) (mvT hZ (hw _ (List.mem_of_getElem? (i := 41) rfl))) (by decide) (backOf (W := 0) (rmT l Z a0 hw [] po dm b1 b2 (0 : Int32) (0 : Int32) (0 : Int32).toNatClampNeg (own_p p0 p1 p2) (own_v v0 v1 v2) T131.heap n0 ZZ hSV GP1 GV1 bdm ⟨by first | decide | (rw [z]; decide), by first | decide | (rw [z]; decide), by first | decide | (rw [z]; decide)⟩ hrng) hZ (hw _ (List.mem_of_getElem? (i := 43) rfl)) (hw _ (List.mem_of_getElem? (i := 2) rfl)) (by decide) (by decide)) q134a q134c (g := (mkF m 364 #[.val (.int q1), .val (.int q2), .val (.int q3), .val (.int q4), .val (.int q5), .val (.int k), .val (.int av), .val (.int p0), .val (.int p1), .val (.int p2), .val (.int xt), .val (.int lst), .val (.int dm), .val (.double v0), .second, .val (.double v1), .second, .val (.double v2), .second, .val (.double jk), .second, .val (.ref po), .unset, .unset] [(.ref po)])) rfl (by rw [hml]; rfl) (Steps.refl _) (argsL := []) (rest := []) (lenOf pd_3 rfl) rfl (by show 2 * 0 + _ ≤ _; exact Nat.le_of_eq rfl) (hb hby at_364) (fun _ _ => ⟨rfl, rfl, (by decide : ((((0 + 1) + 1) + 1) + 2) + 1 ≤ _), (by decide : ((((0 + 5) + 0) + 0) + 6) + 15 ≤ _)⟩)
        dsimp only [Pt.U, Pt.locs, Pt.cells, Pt.slots] at X134 l134 y134 z134 st134 hQ134
        subst l134 y134 z134
        obtain ⟨c1, rfl, sc1, Gc1_, Kc134, Nq134⟩ := hQ134
        have N134 := Fr.app N131 Nq134
        have r135 : Steps p.tables e below S0 (T134.setTop (mkF m 367 #[.val (.int q1), .val (.int q2), .val (.int q3), .val (.int q4), .val (.int q5), .val (.int k), .val (.int av), .val (.int p0), .val (.int p1), .val (.int p2), .val (.int xt), .val (.int lst), .val (.int dm), .val (.double v0), .second, .val (.double v1), .second, .val (.double v2), .second, .val (.double jk), .second, .val (.ref po), .unset, .unset] [(.ref c1)])) := r133.trans st134
        have G134_b1 := GP1.keep Kc134 nin0
        have G134_b2 := GV1.keep Kc134 nin0
        have E134_sv_ := hSV.1.keep Kc134
        have E134_po := hSV.1.keep Kc134
        have Z134 : n0 ≤ T134.heap.size := Nat.le_trans ZZ Kc134.1
        have hSVc1 := own_svkeep hSV Kc134
        have G1_ : Gar Z T134.heap c1 .double dm.toNatClampNeg (fun i => .double (own_c k p0 p1 p2 v0 v1 v2 i)) := Gc1_.congr (fun i _ => by
            rw [show ((0 : Int32).toInt - (0 : Int32).toInt).toNat = 0 by first | decide | (rw [z]; decide), show (0 : Int32).toNatClampNeg = 0 by first | decide | (rw [z]; decide), z]
            rfl)
        have r136 : Steps p.tables e below S0 (T134.setTop (mkF m 371 #[.val (.int q1), .val (.int q2), .val (.int q3), .val (.int q4), .val (.int q5), .val (.int k), .val (.int av), .val (.int p0), .val (.int p1), .val (.int p2), .val (.int xt), .val (.int lst), .val (.int dm), .val (.double v0), .second, .val (.double v1), .second, .val (.double v2), .second, .val (.double jk), .second, .val (.ref po), .val (.ref c1), .unset] [(.ref po)])) := by
          refine r135.trans ?_
          show Steps p.tables e below (T134.setTop (mkF m 367 #[.val (.int q1), .val (.int q2), .val (.int q3), .val (.int q4), .val (.int q5), .val (.int k), .val (.int av), .val (.int p0), .val (.int p1), .val (.int p2), .val (.int xt), .val (.int lst), .val (.int dm), .val (.double v0), .second, .val (.double v1), .second, .val (.double v2), .second, .val (.double jk), .second, .val (.ref po), .unset, .unset] [(.ref c1)])) _
          refine XS.astore X134.here hx rfl (hb hby at_367) rfl rfl (l' := #[.val (.int q1), .val (.int q2), .val (.int q3), .val (.int q4), .val (.int q5), .val (.int k), .val (.int av), .val (.int p0), .val (.int p1), .val (.int p2), .val (.int xt), .val (.int lst), .val (.int dm), .val (.double v0), .second, .val (.double v1), .second, .val (.double v2), .second, .val (.double jk), .second, .val (.ref po), .val (.ref c1), .unset]) rfl ?_
          show Steps p.tables e below (T134.setTop (mkF m 369 #[.val (.int q1), .val (.int q2), .val (.int q3), .val (.int q4), .val (.int q5), .val (.int k), .val (.int av), .val (.int p0), .val (.int p1), .val (.int p2), .val (.int xt), .val (.int lst), .val (.int dm), .val (.double v0), .second, .val (.double v1), .second, .val (.double v2), .second, .val (.double jk), .second, .val (.ref po), .val (.ref c1), .unset] [])) _
          refine XS.aload X134.here hx rfl (hb hby at_369) rfl rfl ?_
          exact Steps.refl _
        obtain ⟨cq137, kq137, q137a, q137b, q137c⟩ := isOf hZ rfl hSVc1.1
        obtain ⟨_, _, ⟨T137, L137, k137, n137⟩, -, X137, ⟨Lc137, hQ137, l137, y137, z137⟩, st137⟩ := X134.virtualBack hx (y := (⟨"com/example/polytome/polytome/model/SparseVector", "toArray", "()[D"⟩ : MethodName)) (z := (⟨"com/example/polytome/polytome/model/SparseVector", "toArray", "()[D"⟩ : MethodName)) hown (mvT hZ (hw _ (List.mem_of_getElem? (i := 39) rfl))) (mvT hZ (hw _ (List.mem_of_getElem? (i := 40) rfl))) (notFace_of_selects (args := #[]) (mvT hZ (hw _ (List.mem_of_getElem? (i := 42) rfl)))) (mvT hZ (hw _ (List.mem_of_getElem? (i := 42) rfl))) (mvT hZ (hw _ (List.mem_of_getElem? (i := 41) rfl))) (by decide) (backOf (W := 0) (rmT l Z a0 hw [] po dm b1 b2 (0 : Int32) (0 : Int32) (0 : Int32).toNatClampNeg (own_p p0 p1 p2) (own_v v0 v1 v2) T134.heap n0 Z134 hSVc1 G134_b1 G134_b2 bdm ⟨by first | decide | (rw [z]; decide), by first | decide | (rw [z]; decide), by first | decide | (rw [z]; decide)⟩ hrng) hZ (hw _ (List.mem_of_getElem? (i := 43) rfl)) (hw _ (List.mem_of_getElem? (i := 2) rfl)) (by decide) (by decide)) q137a q137c (g := (mkF m 371 #[.val (.int q1), .val (.int q2), .val (.int q3), .val (.int q4), .val (.int q5), .val (.int k), .val (.int av), .val (.int p0), .val (.int p1), .val (.int p2), .val (.int xt), .val (.int lst), .val (.int dm), .val (.double v0), .second, .val (.double v1), .second, .val (.double v2), .second, .val (.double jk), .second, .val (.ref po), .val (.ref c1), .unset] [(.ref po)])) rfl (by rw [hml]; rfl) (Steps.refl _) (argsL := []) (rest := []) (lenOf pd_3 rfl) rfl (by show 2 * 0 + _ ≤ _; exact Nat.le_of_eq rfl) (hb hby at_371) (fun _ _ => ⟨rfl, rfl, (by decide : (((((0 + 1) + 1) + 1) + 2) + 1) + 1 ≤ _), (by decide : (((((0 + 5) + 0) + 0) + 6) + 15) + 15 ≤ _)⟩)
        dsimp only [Pt.U, Pt.locs, Pt.cells, Pt.slots] at X137 l137 y137 z137 st137 hQ137
        subst l137 y137 z137
        obtain ⟨c2, rfl, sc2, Gc2_, Kc137, Nq137⟩ := hQ137
        have N137 := Fr.app N134 Nq137
        have r138 : Steps p.tables e below S0 (T137.setTop (mkF m 374 #[.val (.int q1), .val (.int q2), .val (.int q3), .val (.int q4), .val (.int q5), .val (.int k), .val (.int av), .val (.int p0), .val (.int p1), .val (.int p2), .val (.int xt), .val (.int lst), .val (.int dm), .val (.double v0), .second, .val (.double v1), .second, .val (.double v2), .second, .val (.double jk), .second, .val (.ref po), .val (.ref c1), .unset] [(.ref c2)])) := r136.trans st137
        have G137_b1 := G134_b1.keep Kc137 nin0
        have G137_b2 := G134_b2.keep Kc137 nin0
        have G137_c1 := G1_.keep Kc137 nin0
        have E137_sv_ := E134_sv_.keep Kc137
        have E137_po := hSVc1.1.keep Kc137
        have Z137 : n0 ≤ T137.heap.size := Nat.le_trans Z134 Kc137.1
        have hSVc2 := own_svkeep hSVc1 Kc137
        have r139 : Steps p.tables e below S0 (T137.setTop (mkF m 376 #[.val (.int q1), .val (.int q2), .val (.int q3), .val (.int q4), .val (.int q5), .val (.int k), .val (.int av), .val (.int p0), .val (.int p1), .val (.int p2), .val (.int xt), .val (.int lst), .val (.int dm), .val (.double v0), .second, .val (.double v1), .second, .val (.double v2), .second, .val (.double jk), .second, .val (.ref po), .val (.ref c1), .val (.ref c2)] [])) := by
          refine r138.trans ?_
          show Steps p.tables e below (T137.setTop (mkF m 374 #[.val (.int q1), .val (.int q2), .val (.int q3), .val (.int q4), .val (.int q5), .val (.int k), .val (.int av), .val (.int p0), .val (.int p1), .val (.int p2), .val (.int xt), .val (.int lst), .val (.int dm), .val (.double v0), .second, .val (.double v1), .second, .val (.double v2), .second, .val (.double jk), .second, .val (.ref po), .val (.ref c1), .unset] [(.ref c2)])) _
          refine XS.astore X137.here hx rfl (hb hby at_374) rfl rfl (l' := #[.val (.int q1), .val (.int q2), .val (.int q3), .val (.int q4), .val (.int q5), .val (.int k), .val (.int av), .val (.int p0), .val (.int p1), .val (.int p2), .val (.int xt), .val (.int lst), .val (.int dm), .val (.double v0), .second, .val (.double v1), .second, .val (.double v2), .second, .val (.double jk), .second, .val (.ref po), .val (.ref c1), .val (.ref c2)]) rfl ?_
          exact Steps.refl _
        have hne_ : c1 ≠ c2 := Nat.ne_of_lt (Nat.lt_of_lt_of_le G1_.lt sc2)
        exact ⟨_, _, _, po, c1, c2, X137.more (by decide) (by decide), rfl, N137, Z137, hne_, G137_c1, r139⟩
      · skip
        have hl : lst.toInt = p0.toInt + 1 := by rcases hlst with ⟨y, h_⟩ | ⟨y, h_⟩ | ⟨y, h_⟩ | ⟨y, h_⟩ <;> first | exact h_ | exact absurd (z.symm.trans y) (by decide)
        have r140 : Steps p.tables e below S0 (s₁.setTop (mkF m 239 #[.val (.int q1), .val (.int q2), .val (.int q3), .val (.int q4), .val (.int q5), .val (.int k), .val (.int av), .val (.int p0), .val (.int p1), .val (.int p2), .val (.int xt), .val (.int lst), .val (.int dm), .val (.double v0), .second, .val (.double v1), .second, .val (.double v2), .second, .val (.double jk), .second, .unset, .unset, .unset] [])) := by
          refine r121.trans ?_
          show Steps p.tables e below (s₁.setTop (mkF m 128 #[.val (.int q1), .val (.int q2), .val (.int q3), .val (.int q4), .val (.int q5), .val (.int k), .val (.int av), .val (.int p0), .val (.int p1), .val (.int p2), .val (.int xt), .val (.int lst), .val (.int dm), .val (.double v0), .second, .val (.double v1), .second, .val (.double v2), .second, .val (.double jk), .second, .unset, .unset, .unset] [(.int av)])) _
          refine XS.ifYes X0.here hx rfl (pc0 := 128) (pc' := 208) rfl (hb hby at_128) rfl ((if0 _ _).trans (teq hav).1) (by decide) (by decide) ?_
          show Steps p.tables e below (s₁.setTop (mkF m 208 #[.val (.int q1), .val (.int q2), .val (.int q3), .val (.int q4), .val (.int q5), .val (.int k), .val (.int av), .val (.int p0), .val (.int p1), .val (.int p2), .val (.int xt), .val (.int lst), .val (.int dm), .val (.double v0), .second, .val (.double v1), .second, .val (.double v2), .second, .val (.double jk), .second, .unset, .unset, .unset] [])) _
          refine XS.iload X0.here hx rfl (hb hby at_208) rfl ?_
          show Steps p.tables e below (s₁.setTop (mkF m 210 #[.val (.int q1), .val (.int q2), .val (.int q3), .val (.int q4), .val (.int q5), .val (.int k), .val (.int av), .val (.int p0), .val (.int p1), .val (.int p2), .val (.int xt), .val (.int lst), .val (.int dm), .val (.double v0), .second, .val (.double v1), .second, .val (.double v2), .second, .val (.double jk), .second, .unset, .unset, .unset] [(.int k)])) _
          refine XS.ifYes X0.here hx rfl (pc0 := 210) (pc' := 233) rfl (hb hby at_210) rfl ((if0 _ _).trans (feq (by rw [z] <;> decide)).2) (by decide) (by decide) ?_
          show Steps p.tables e below (s₁.setTop (mkF m 233 #[.val (.int q1), .val (.int q2), .val (.int q3), .val (.int q4), .val (.int q5), .val (.int k), .val (.int av), .val (.int p0), .val (.int p1), .val (.int p2), .val (.int xt), .val (.int lst), .val (.int dm), .val (.double v0), .second, .val (.double v1), .second, .val (.double v2), .second, .val (.double jk), .second, .unset, .unset, .unset] [])) _
          refine XS.iload X0.here hx rfl (hb hby at_233) rfl ?_
          show Steps p.tables e below (s₁.setTop (mkF m 235 #[.val (.int q1), .val (.int q2), .val (.int q3), .val (.int q4), .val (.int q5), .val (.int k), .val (.int av), .val (.int p0), .val (.int p1), .val (.int p2), .val (.int xt), .val (.int lst), .val (.int dm), .val (.double v0), .second, .val (.double v1), .second, .val (.double v2), .second, .val (.double jk), .second, .unset, .unset, .unset] [(.int k)])) _
          refine XS.iconst X0.here hx rfl (hb hby at_235) ?_
          show Steps p.tables e below (s₁.setTop (mkF m 236 #[.val (.int q1), .val (.int q2), .val (.int q3), .val (.int q4), .val (.int q5), .val (.int k), .val (.int av), .val (.int p0), .val (.int p1), .val (.int p2), .val (.int xt), .val (.int lst), .val (.int dm), .val (.double v0), .second, .val (.double v1), .second, .val (.double v2), .second, .val (.double jk), .second, .unset, .unset, .unset] [(.int (1 : Int32)), (.int k)])) _
          refine XS.icmpNo X0.here hx rfl (hb hby at_236) rfl (teq (by rw [z] <;> decide)).2 ?_
          exact Steps.refl _
        obtain ⟨T141, h141, X141, e141, E141, A141, D141, -, st141⟩ := newO X0 hx hZ hown (hw _ (List.mem_of_getElem? (i := 0) rfl)) (hw _ (List.mem_of_getElem? (i := 1) rfl)) (hw _ (List.mem_of_getElem? (i := 2) rfl)) e0 (g := (mkF m 239 #[.val (.int q1), .val (.int q2), .val (.int q3), .val (.int q4), .val (.int q5), .val (.int k), .val (.int av), .val (.int p0), .val (.int p1), .val (.int p2), .val (.int xt), .val (.int lst), .val (.int dm), .val (.double v0), .second, .val (.double v1), .second, .val (.double v2), .second, .val (.double jk), .second, .unset, .unset, .unset] [])) rfl (hb hby at_239) (by decide) (by decide)
        obtain ⟨po, g141⟩ : ∃ z, z = h0.size := ⟨_, rfl⟩
        rw [← g141] at A141 D141 st141
        have g_po : n0 ≤ po := Nat.le_trans Z0 (Nat.le_of_eq g141.symm)
        have Z141 : n0 ≤ h141.size := Nat.le_trans Z0 E141.1
        have F_po_dimension : Fld Z h141 po "com/example/polytome/polytome/model/SparseVector" "dimension" "I" (.int (0 : Int32)) := D141 (Or.inr (hw _ (List.mem_of_getElem? (i := 30) rfl))) (ty := .int) (by decide)
        have F_po_positions : Fld Z h141 po "com/example/polytome/polytome/model/SparseVector" "positions" "[I" .null := D141 (Or.inr (hw _ (List.mem_of_getElem? (i := 32) rfl))) (ty := (.array .int)) (by decide)
        have F_po_values : Fld Z h141 po "com/example/polytome/polytome/model/SparseVector" "values" "[D" .null := D141 (Or.inr (hw _ (List.mem_of_getElem? (i := 34) rfl))) (ty := (.array .double)) (by decide)
        have F_po_from : Fld Z h141 po "com/example/polytome/polytome/model/SparseVector" "from" "I" (.int (0 : Int32)) := D141 (Or.inr (hw _ (List.mem_of_getElem? (i := 36) rfl))) (ty := .int) (by decide)
        have F_po_to : Fld Z h141 po "com/example/polytome/polytome/model/SparseVector" "to" "I" (.int (0 : Int32)) := D141 (Or.inr (hw _ (List.mem_of_getElem? (i := 38) rfl))) (ty := .int) (by decide)
        have r142 : Steps p.tables e below S0 (T141.setTop (mkF m 242 #[.val (.int q1), .val (.int q2), .val (.int q3), .val (.int q4), .val (.int q5), .val (.int k), .val (.int av), .val (.int p0), .val (.int p1), .val (.int p2), .val (.int xt), .val (.int lst), .val (.int dm), .val (.double v0), .second, .val (.double v1), .second, .val (.double v2), .second, .val (.double jk), .second, .unset, .unset, .unset] [(.ref po)])) := r140.trans (st141 _ (Steps.refl _))
        have r143 : Steps p.tables e below S0 (T141.setTop (mkF m 246 #[.val (.int q1), .val (.int q2), .val (.int q3), .val (.int q4), .val (.int q5), .val (.int k), .val (.int av), .val (.int p0), .val (.int p1), .val (.int p2), .val (.int xt), .val (.int lst), .val (.int dm), .val (.double v0), .second, .val (.double v1), .second, .val (.double v2), .second, .val (.double jk), .second, .unset, .unset, .unset] [(.int (1 : Int32)), (.int dm), (.ref po), (.ref po)])) := by
          refine r142.trans ?_
          show Steps p.tables e below (T141.setTop (mkF m 242 #[.val (.int q1), .val (.int q2), .val (.int q3), .val (.int q4), .val (.int q5), .val (.int k), .val (.int av), .val (.int p0), .val (.int p1), .val (.int p2), .val (.int xt), .val (.int lst), .val (.int dm), .val (.double v0), .second, .val (.double v1), .second, .val (.double v2), .second, .val (.double jk), .second, .unset, .unset, .unset] [(.ref po)])) _
          refine XS.dup X141.here hx rfl (hb hby at_242) rfl rfl ?_
          show Steps p.tables e below (T141.setTop (mkF m 243 #[.val (.int q1), .val (.int q2), .val (.int q3), .val (.int q4), .val (.int q5), .val (.int k), .val (.int av), .val (.int p0), .val (.int p1), .val (.int p2), .val (.int xt), .val (.int lst), .val (.int dm), .val (.double v0), .second, .val (.double v1), .second, .val (.double v2), .second, .val (.double jk), .second, .unset, .unset, .unset] [(.ref po), (.ref po)])) _
          refine XS.iload X141.here hx rfl (hb hby at_243) rfl ?_
          show Steps p.tables e below (T141.setTop (mkF m 245 #[.val (.int q1), .val (.int q2), .val (.int q3), .val (.int q4), .val (.int q5), .val (.int k), .val (.int av), .val (.int p0), .val (.int p1), .val (.int p2), .val (.int xt), .val (.int lst), .val (.int dm), .val (.double v0), .second, .val (.double v1), .second, .val (.double v2), .second, .val (.double jk), .second, .unset, .unset, .unset] [(.int dm), (.ref po), (.ref po)])) _
          refine XS.iconst X141.here hx rfl (hb hby at_245) ?_
          exact Steps.refl _
        obtain ⟨T144, h144, k144, X144, e144, E144, A144, B144, st144⟩ := newPE X141 hx hZ (hw _ (List.mem_of_getElem? (i := 3) rfl)) e141 (g := (mkF m 246 #[.val (.int q1), .val (.int q2), .val (.int q3), .val (.int q4), .val (.int q5), .val (.int k), .val (.int av), .val (.int p0), .val (.int p1), .val (.int p2), .val (.int xt), .val (.int lst), .val (.int dm), .val (.double v0), .second, .val (.double v1), .second, .val (.double v2), .second, .val (.double jk), .second, .unset, .unset, .unset] [(.int (1 : Int32)), (.int dm), (.ref po), (.ref po)])) rfl (hb hby at_246) rfl (by decide) (cap := 1) (by decide) (by decide) (by decide) (by decide) (ad := "[I") (by decide)
        obtain ⟨ps, g144⟩ : ∃ z, z = h141.size := ⟨_, rfl⟩
        rw [← g144] at A144 B144 st144
        have ne_po_ps : po ≠ ps := Nat.ne_of_lt (by rw [g144]; exact A141.lt)
        have G_ps : Gar Z h144 ps .int ((1 : Int32)).toNatClampNeg (fun _ => defaultValue .int) := Gar.new A144
        have g_ps : n0 ≤ ps := Nat.le_trans Z141 (Nat.le_of_eq g144.symm)
        have F144_po_dimension := F_po_dimension.ext E144
        have F144_po_positions := F_po_positions.ext E144
        have F144_po_values := F_po_values.ext E144
        have F144_po_from := F_po_from.ext E144
        have F144_po_to := F_po_to.ext E144
        have E144_po := A141.ext E144
        have Z144 : n0 ≤ h144.size := Nat.le_trans Z141 E144.1
        have r145 : Steps p.tables e below S0 (T144.setTop (mkF m 248 #[.val (.int q1), .val (.int q2), .val (.int q3), .val (.int q4), .val (.int q5), .val (.int k), .val (.int av), .val (.int p0), .val (.int p1), .val (.int p2), .val (.int xt), .val (.int lst), .val (.int dm), .val (.double v0), .second, .val (.double v1), .second, .val (.double v2), .second, .val (.double jk), .second, .unset, .unset, .unset] [(.ref ps), (.int dm), (.ref po), (.ref po)])) := r143.trans (st144 _ (Steps.refl _))
        have r146 : Steps p.tables e below S0 (T144.setTop (mkF m 252 #[.val (.int q1), .val (.int q2), .val (.int q3), .val (.int q4), .val (.int q5), .val (.int k), .val (.int av), .val (.int p0), .val (.int p1), .val (.int p2), .val (.int xt), .val (.int lst), .val (.int dm), .val (.double v0), .second, .val (.double v1), .second, .val (.double v2), .second, .val (.double jk), .second, .unset, .unset, .unset] [(.int p0), (.int (0 : Int32)), (.ref ps), (.ref ps), (.int dm), (.ref po), (.ref po)])) := by
          refine r145.trans ?_
          show Steps p.tables e below (T144.setTop (mkF m 248 #[.val (.int q1), .val (.int q2), .val (.int q3), .val (.int q4), .val (.int q5), .val (.int k), .val (.int av), .val (.int p0), .val (.int p1), .val (.int p2), .val (.int xt), .val (.int lst), .val (.int dm), .val (.double v0), .second, .val (.double v1), .second, .val (.double v2), .second, .val (.double jk), .second, .unset, .unset, .unset] [(.ref ps), (.int dm), (.ref po), (.ref po)])) _
          refine XS.dup X144.here hx rfl (hb hby at_248) rfl rfl ?_
          show Steps p.tables e below (T144.setTop (mkF m 249 #[.val (.int q1), .val (.int q2), .val (.int q3), .val (.int q4), .val (.int q5), .val (.int k), .val (.int av), .val (.int p0), .val (.int p1), .val (.int p2), .val (.int xt), .val (.int lst), .val (.int dm), .val (.double v0), .second, .val (.double v1), .second, .val (.double v2), .second, .val (.double jk), .second, .unset, .unset, .unset] [(.ref ps), (.ref ps), (.int dm), (.ref po), (.ref po)])) _
          refine XS.iconst X144.here hx rfl (hb hby at_249) ?_
          show Steps p.tables e below (T144.setTop (mkF m 250 #[.val (.int q1), .val (.int q2), .val (.int q3), .val (.int q4), .val (.int q5), .val (.int k), .val (.int av), .val (.int p0), .val (.int p1), .val (.int p2), .val (.int xt), .val (.int lst), .val (.int dm), .val (.double v0), .second, .val (.double v1), .second, .val (.double v2), .second, .val (.double jk), .second, .unset, .unset, .unset] [(.int (0 : Int32)), (.ref ps), (.ref ps), (.int dm), (.ref po), (.ref po)])) _
          refine XS.iload X144.here hx rfl (hb hby at_250) rfl ?_
          exact Steps.refl _
        obtain ⟨T147, h147, X147, e147, W147, st147⟩ := stIG X144 hx hZ e144 G_ps (j := (0 : Int32)) (by decide) (by decide) (g := (mkF m 252 #[.val (.int q1), .val (.int q2), .val (.int q3), .val (.int q4), .val (.int q5), .val (.int k), .val (.int av), .val (.int p0), .val (.int p1), .val (.int p2), .val (.int xt), .val (.int lst), .val (.int dm), .val (.double v0), .second, .val (.double v1), .second, .val (.double v2), .second, .val (.double jk), .second, .unset, .unset, .unset] [(.int p0), (.int (0 : Int32)), (.ref ps), (.ref ps), (.int dm), (.ref po), (.ref po)])) rfl rfl (hb hby at_252)
        have N147 := Fr.snoc X147 N0 g_ps
        have G147_ps := G_ps.set W147
        have F147_po_dimension := F144_po_dimension.other W147 (Or.inl ne_po_ps)
        have F147_po_positions := F144_po_positions.other W147 (Or.inl ne_po_ps)
        have F147_po_values := F144_po_values.other W147 (Or.inl ne_po_ps)
        have F147_po_from := F144_po_from.other W147 (Or.inl ne_po_ps)
        have F147_po_to := F144_po_to.other W147 (Or.inl ne_po_ps)
        have E147_po := E144_po.wr W147
        have E147_ps := B144.wr W147
        have Z147 : n0 ≤ h147.size := Nat.le_trans Z144 (Nat.le_of_eq W147.size.symm)
        have r148 : Steps p.tables e below S0 (T147.setTop (mkF m 253 #[.val (.int q1), .val (.int q2), .val (.int q3), .val (.int q4), .val (.int q5), .val (.int k), .val (.int av), .val (.int p0), .val (.int p1), .val (.int p2), .val (.int xt), .val (.int lst), .val (.int dm), .val (.double v0), .second, .val (.double v1), .second, .val (.double v2), .second, .val (.double jk), .second, .unset, .unset, .unset] [(.ref ps), (.int dm), (.ref po), (.ref po)])) := r146.trans (st147 _ (Steps.refl _))
        have r149 : Steps p.tables e below S0 (T147.setTop (mkF m 254 #[.val (.int q1), .val (.int q2), .val (.int q3), .val (.int q4), .val (.int q5), .val (.int k), .val (.int av), .val (.int p0), .val (.int p1), .val (.int p2), .val (.int xt), .val (.int lst), .val (.int dm), .val (.double v0), .second, .val (.double v1), .second, .val (.double v2), .second, .val (.double jk), .second, .unset, .unset, .unset] [(.int (1 : Int32)), (.ref ps), (.int dm), (.ref po), (.ref po)])) := by
          refine r148.trans ?_
          show Steps p.tables e below (T147.setTop (mkF m 253 #[.val (.int q1), .val (.int q2), .val (.int q3), .val (.int q4), .val (.int q5), .val (.int k), .val (.int av), .val (.int p0), .val (.int p1), .val (.int p2), .val (.int xt), .val (.int lst), .val (.int dm), .val (.double v0), .second, .val (.double v1), .second, .val (.double v2), .second, .val (.double jk), .second, .unset, .unset, .unset] [(.ref ps), (.int dm), (.ref po), (.ref po)])) _
          refine XS.iconst X147.here hx rfl (hb hby at_253) ?_
          exact Steps.refl _
        obtain ⟨T150, h150, k150, X150, e150, E150, A150, B150, st150⟩ := newPE X147 hx hZ (hw _ (List.mem_of_getElem? (i := 4) rfl)) e147 (g := (mkF m 254 #[.val (.int q1), .val (.int q2), .val (.int q3), .val (.int q4), .val (.int q5), .val (.int k), .val (.int av), .val (.int p0), .val (.int p1), .val (.int p2), .val (.int xt), .val (.int lst), .val (.int dm), .val (.double v0), .second, .val (.double v1), .second, .val (.double v2), .second, .val (.double jk), .second, .unset, .unset, .unset] [(.int (1 : Int32)), (.ref ps), (.int dm), (.ref po), (.ref po)])) rfl (hb hby at_254) rfl (by decide) (cap := 1) (by decide) (by decide) (by decide) (by decide) (ad := "[D") (by decide)
        obtain ⟨vs, g150⟩ : ∃ z, z = h147.size := ⟨_, rfl⟩
        rw [← g150] at A150 B150 st150
        have ne_ps_vs : ps ≠ vs := Nat.ne_of_lt (by rw [g150]; exact G147_ps.lt)
        have ne_po_vs : po ≠ vs := Nat.ne_of_lt (by rw [g150]; exact E147_po.lt)
        have G_vs : Gar Z h150 vs .double ((1 : Int32)).toNatClampNeg (fun _ => defaultValue .double) := Gar.new A150
        have g_vs : n0 ≤ vs := Nat.le_trans Z147 (Nat.le_of_eq g150.symm)
        have G150_ps := G147_ps.ext E150
        have F150_po_dimension := F147_po_dimension.ext E150
        have F150_po_positions := F147_po_positions.ext E150
        have F150_po_values := F147_po_values.ext E150
        have F150_po_from := F147_po_from.ext E150
        have F150_po_to := F147_po_to.ext E150
        have E150_po := E147_po.ext E150
        have E150_ps := E147_ps.ext E150
        have Z150 : n0 ≤ h150.size := Nat.le_trans Z147 E150.1
        have r151 : Steps p.tables e below S0 (T150.setTop (mkF m 256 #[.val (.int q1), .val (.int q2), .val (.int q3), .val (.int q4), .val (.int q5), .val (.int k), .val (.int av), .val (.int p0), .val (.int p1), .val (.int p2), .val (.int xt), .val (.int lst), .val (.int dm), .val (.double v0), .second, .val (.double v1), .second, .val (.double v2), .second, .val (.double jk), .second, .unset, .unset, .unset] [(.ref vs), (.ref ps), (.int dm), (.ref po), (.ref po)])) := r149.trans (st150 _ (Steps.refl _))
        have r152 : Steps p.tables e below S0 (T150.setTop (mkF m 260 #[.val (.int q1), .val (.int q2), .val (.int q3), .val (.int q4), .val (.int q5), .val (.int k), .val (.int av), .val (.int p0), .val (.int p1), .val (.int p2), .val (.int xt), .val (.int lst), .val (.int dm), .val (.double v0), .second, .val (.double v1), .second, .val (.double v2), .second, .val (.double jk), .second, .unset, .unset, .unset] [(.double v0), (.int (0 : Int32)), (.ref vs), (.ref vs), (.ref ps), (.int dm), (.ref po), (.ref po)])) := by
          refine r151.trans ?_
          show Steps p.tables e below (T150.setTop (mkF m 256 #[.val (.int q1), .val (.int q2), .val (.int q3), .val (.int q4), .val (.int q5), .val (.int k), .val (.int av), .val (.int p0), .val (.int p1), .val (.int p2), .val (.int xt), .val (.int lst), .val (.int dm), .val (.double v0), .second, .val (.double v1), .second, .val (.double v2), .second, .val (.double jk), .second, .unset, .unset, .unset] [(.ref vs), (.ref ps), (.int dm), (.ref po), (.ref po)])) _
          refine XS.dup X150.here hx rfl (hb hby at_256) rfl rfl ?_
          show Steps p.tables e below (T150.setTop (mkF m 257 #[.val (.int q1), .val (.int q2), .val (.int q3), .val (.int q4), .val (.int q5), .val (.int k), .val (.int av), .val (.int p0), .val (.int p1), .val (.int p2), .val (.int xt), .val (.int lst), .val (.int dm), .val (.double v0), .second, .val (.double v1), .second, .val (.double v2), .second, .val (.double jk), .second, .unset, .unset, .unset] [(.ref vs), (.ref vs), (.ref ps), (.int dm), (.ref po), (.ref po)])) _
          refine XS.iconst X150.here hx rfl (hb hby at_257) ?_
          show Steps p.tables e below (T150.setTop (mkF m 258 #[.val (.int q1), .val (.int q2), .val (.int q3), .val (.int q4), .val (.int q5), .val (.int k), .val (.int av), .val (.int p0), .val (.int p1), .val (.int p2), .val (.int xt), .val (.int lst), .val (.int dm), .val (.double v0), .second, .val (.double v1), .second, .val (.double v2), .second, .val (.double jk), .second, .unset, .unset, .unset] [(.int (0 : Int32)), (.ref vs), (.ref vs), (.ref ps), (.int dm), (.ref po), (.ref po)])) _
          refine XS.dload X150.here hx rfl (hb hby at_258) rfl ?_
          exact Steps.refl _
        obtain ⟨T153, h153, X153, e153, W153, st153⟩ := stDG X150 hx hZ e150 G_vs (j := (0 : Int32)) (by decide) (by decide) (g := (mkF m 260 #[.val (.int q1), .val (.int q2), .val (.int q3), .val (.int q4), .val (.int q5), .val (.int k), .val (.int av), .val (.int p0), .val (.int p1), .val (.int p2), .val (.int xt), .val (.int lst), .val (.int dm), .val (.double v0), .second, .val (.double v1), .second, .val (.double v2), .second, .val (.double jk), .second, .unset, .unset, .unset] [(.double v0), (.int (0 : Int32)), (.ref vs), (.ref vs), (.ref ps), (.int dm), (.ref po), (.ref po)])) rfl rfl (hb hby at_260)
        have N153 := Fr.snoc X153 N147 g_vs
        have G153_ps := G150_ps.other W153 ne_ps_vs
        have G153_vs := G_vs.set W153
        have F153_po_dimension := F150_po_dimension.other W153 (Or.inl ne_po_vs)
        have F153_po_positions := F150_po_positions.other W153 (Or.inl ne_po_vs)
        have F153_po_values := F150_po_values.other W153 (Or.inl ne_po_vs)
        have F153_po_from := F150_po_from.other W153 (Or.inl ne_po_vs)
        have F153_po_to := F150_po_to.other W153 (Or.inl ne_po_vs)
        have E153_po := E150_po.wr W153
        have E153_ps := E150_ps.wr W153
        have E153_vs := B150.wr W153
        have Z153 : n0 ≤ h153.size := Nat.le_trans Z150 (Nat.le_of_eq W153.size.symm)
        have r154 : Steps p.tables e below S0 (T153.setTop (mkF m 261 #[.val (.int q1), .val (.int q2), .val (.int q3), .val (.int q4), .val (.int q5), .val (.int k), .val (.int av), .val (.int p0), .val (.int p1), .val (.int p2), .val (.int xt), .val (.int lst), .val (.int dm), .val (.double v0), .second, .val (.double v1), .second, .val (.double v2), .second, .val (.double jk), .second, .unset, .unset, .unset] [(.ref vs), (.ref ps), (.int dm), (.ref po), (.ref po)])) := r152.trans (st153 _ (Steps.refl _))
        have tk0 : (1 : Int32).toNatClampNeg = 1 := by decide
        have GP : Gar Z h153 ps .int (1 : Int32).toNatClampNeg (fun i => .int (own_p p0 p1 p2 i)) := G153_ps.congr (fun i hi => by
            rw [tk0] at hi
            have hi2 : i = 0 := by omega
            rcases hi2 with rfl <;> rfl)
        have GV : Gar Z h153 vs .double (1 : Int32).toNatClampNeg (fun i => .double (own_v v0 v1 v2 i)) := G153_vs.congr (fun i hi => by
            rw [tk0] at hi
            have hi2 : i = 0 := by omega
            rcases hi2 with rfl <;> rfl)
        have posp : ∀ i : Nat, (i : Int) < (1 : Int32).toInt → 0 ≤ (own_p p0 p1 p2 i).toInt ∧ (own_p p0 p1 p2 i).toInt < dm.toInt := by
          intro i hi
          rw [show (1 : Int32).toInt = 1 by decide] at hi
          have hi2 : i = 0 := by omega
          rcases hi2 with rfl
          · show 0 ≤ p0.toInt ∧ p0.toInt < dm.toInt; omega
        have incp : ∀ i : Nat, (i : Int) + 1 < (1 : Int32).toInt → (own_p p0 p1 p2 i).toInt < (own_p p0 p1 p2 (i + 1)).toInt := by
          intro i hi
          rw [show (1 : Int32).toInt = 1 by decide] at hi
          omega
        obtain ⟨_, _, ⟨T155, L155, k155, n155⟩, -, X155, ⟨Lc155, hQ155, l155, y155, z155⟩, st155⟩ := X153.specialBack hx (y := (⟨"com/example/polytome/polytome/model/SparseVector", "<init>", "(I[I[D)V"⟩ : MethodName)) rfl hown (mvT hZ (hw _ (List.mem_of_getElem? (i := 5) rfl))) (mvT hZ (hw _ (List.mem_of_getElem? (i := 6) rfl))) (mvT hZ (hw _ (List.mem_of_getElem? (i := 7) rfl))) (by decide) (backOf (W := 1) (rm3 l Z a0 hw [] po dm ps vs (1 : Int32) (own_p p0 p1 p2) (own_v v0 v1 v2) h153 n0 Z153 E153_po g_po F153_po_dimension F153_po_positions F153_po_values F153_po_from F153_po_to GP GV E153_ps E153_vs ne_po_ps ne_po_vs (by decide) posp incp) hZ (hw _ (List.mem_of_getElem? (i := 7) rfl)) (hw _ (List.mem_of_getElem? (i := 2) rfl)) (by decide) (by decide)) (g := (mkF m 261 #[.val (.int q1), .val (.int q2), .val (.int q3), .val (.int q4), .val (.int q5), .val (.int k), .val (.int av), .val (.int p0), .val (.int p1), .val (.int p2), .val (.int xt), .val (.int lst), .val (.int dm), .val (.double v0), .second, .val (.double v1), .second, .val (.double v2), .second, .val (.double jk), .second, .unset, .unset, .unset] [(.ref vs), (.ref ps), (.int dm), (.ref po), (.ref po)])) rfl (by rw [hml]; rfl) (Steps.refl _) (a := po) (argsL := [(.int dm), (.ref ps), (.ref vs)]) (rest := [(.ref po)]) (lenOf pd_2 rfl) rfl (by show 2 * 0 + _ ≤ _; exact Nat.le_of_eq rfl) (hb hby at_261) (fun _ _ => ⟨rfl, e153, (by decide : (((0 + 1) + 1) + 1) + 2 ≤ _), (by decide : (((0 + 5) + 1) + 1) + 6 ≤ _)⟩)
        dsimp only [Pt.U, Pt.locs, Pt.cells, Pt.slots] at X155 l155 y155 z155 st155 hQ155
        subst l155 y155 z155
        obtain ⟨rfl, Nq155, b1, b2, hSV, GP1, GV1, ZZ⟩ := hQ155
        have N155 := Fr.app N153 Nq155
        have r156 : Steps p.tables e below S0 (T155.setTop (mkF m 264 #[.val (.int q1), .val (.int q2), .val (.int q3), .val (.int q4), .val (.int q5), .val (.int k), .val (.int av), .val (.int p0), .val (.int p1), .val (.int p2), .val (.int xt), .val (.int lst), .val (.int dm), .val (.double v0), .second, .val (.double v1), .second, .val (.double v2), .second, .val (.double jk), .second, .unset, .unset, .unset] [(.ref po)])) := r154.trans st155
        have hrng : ∀ i : Nat, (0 : Int32).toInt ≤ (i : Int) → (i : Int) < (1 : Int32).toInt → 0 ≤ ((own_p p0 p1 p2) i).toInt ∧ ((own_p p0 p1 p2) i).toInt < dm.toInt := by
          intro i h1 h2
          rw [show (0 : Int32).toInt = 0 by first | decide | (rw [z]; decide)] at h1
          rw [show (1 : Int32).toInt = 1 by first | decide | (rw [z]; decide)] at h2
          have hi : i = 0 := by omega
          rcases hi with rfl
          · show 0 ≤ p0.toInt ∧ p0.toInt < dm.toInt; omega
        have r157 : Steps p.tables e below S0 (T155.setTop (mkF m 364 #[.val (.int q1), .val (.int q2), .val (.int q3), .val (.int q4), .val (.int q5), .val (.int k), .val (.int av), .val (.int p0), .val (.int p1), .val (.int p2), .val (.int xt), .val (.int lst), .val (.int dm), .val (.double v0), .second, .val (.double v1), .second, .val (.double v2), .second, .val (.double jk), .second, .val (.ref po), .unset, .unset] [(.ref po)])) := by
          refine r156.trans ?_
          show Steps p.tables e below (T155.setTop (mkF m 264 #[.val (.int q1), .val (.int q2), .val (.int q3), .val (.int q4), .val (.int q5), .val (.int k), .val (.int av), .val (.int p0), .val (.int p1), .val (.int p2), .val (.int xt), .val (.int lst), .val (.int dm), .val (.double v0), .second, .val (.double v1), .second, .val (.double v2), .second, .val (.double jk), .second, .unset, .unset, .unset] [(.ref po)])) _
          refine XS.astore X155.here hx rfl (hb hby at_264) rfl rfl (l' := #[.val (.int q1), .val (.int q2), .val (.int q3), .val (.int q4), .val (.int q5), .val (.int k), .val (.int av), .val (.int p0), .val (.int p1), .val (.int p2), .val (.int xt), .val (.int lst), .val (.int dm), .val (.double v0), .second, .val (.double v1), .second, .val (.double v2), .second, .val (.double jk), .second, .val (.ref po), .unset, .unset]) rfl ?_
          show Steps p.tables e below (T155.setTop (mkF m 266 #[.val (.int q1), .val (.int q2), .val (.int q3), .val (.int q4), .val (.int q5), .val (.int k), .val (.int av), .val (.int p0), .val (.int p1), .val (.int p2), .val (.int xt), .val (.int lst), .val (.int dm), .val (.double v0), .second, .val (.double v1), .second, .val (.double v2), .second, .val (.double jk), .second, .val (.ref po), .unset, .unset] [])) _
          refine XS.goto X155.here hx rfl (pc0 := 266) (pc' := 362) rfl (hb hby at_266) (by decide) (by decide) ?_
          show Steps p.tables e below (T155.setTop (mkF m 362 #[.val (.int q1), .val (.int q2), .val (.int q3), .val (.int q4), .val (.int q5), .val (.int k), .val (.int av), .val (.int p0), .val (.int p1), .val (.int p2), .val (.int xt), .val (.int lst), .val (.int dm), .val (.double v0), .second, .val (.double v1), .second, .val (.double v2), .second, .val (.double jk), .second, .val (.ref po), .unset, .unset] [])) _
          refine XS.aload X155.here hx rfl (hb hby at_362) rfl rfl ?_
          exact Steps.refl _
        obtain ⟨cq158, kq158, q158a, q158b, q158c⟩ := isOf hZ rfl hSV.1
        obtain ⟨_, _, ⟨T158, L158, k158, n158⟩, -, X158, ⟨Lc158, hQ158, l158, y158, z158⟩, st158⟩ := X155.virtualBack hx (y := (⟨"com/example/polytome/polytome/model/SparseVector", "toArray", "()[D"⟩ : MethodName)) (z := (⟨"com/example/polytome/polytome/model/SparseVector", "toArray", "()[D"⟩ : MethodName)) hown (mvT hZ (hw _ (List.mem_of_getElem? (i := 39) rfl))) (mvT hZ (hw _ (List.mem_of_getElem? (i := 40) rfl))) (notFace_of_selects (args := #[]) (mvT hZ (hw _ (List.mem_of_getElem? (i := 42) rfl)))) (mvT hZ (hw _ (List.mem_of_getElem? (i := 42) rfl))) (mvT hZ (hw _ (List.mem_of_getElem? (i := 41) rfl))) (by decide) (backOf (W := 0) (rmT l Z a0 hw [] po dm b1 b2 (0 : Int32) (1 : Int32) (1 : Int32).toNatClampNeg (own_p p0 p1 p2) (own_v v0 v1 v2) T155.heap n0 ZZ hSV GP1 GV1 bdm ⟨by first | decide | (rw [z]; decide), by first | decide | (rw [z]; decide), by first | decide | (rw [z]; decide)⟩ hrng) hZ (hw _ (List.mem_of_getElem? (i := 43) rfl)) (hw _ (List.mem_of_getElem? (i := 2) rfl)) (by decide) (by decide)) q158a q158c (g := (mkF m 364 #[.val (.int q1), .val (.int q2), .val (.int q3), .val (.int q4), .val (.int q5), .val (.int k), .val (.int av), .val (.int p0), .val (.int p1), .val (.int p2), .val (.int xt), .val (.int lst), .val (.int dm), .val (.double v0), .second, .val (.double v1), .second, .val (.double v2), .second, .val (.double jk), .second, .val (.ref po), .unset, .unset] [(.ref po)])) rfl (by rw [hml]; rfl) (Steps.refl _) (argsL := []) (rest := []) (lenOf pd_3 rfl) rfl (by show 2 * 0 + _ ≤ _; exact Nat.le_of_eq rfl) (hb hby at_364) (fun _ _ => ⟨rfl, rfl, (by decide : ((((0 + 1) + 1) + 1) + 2) + 1 ≤ _), (by decide : ((((0 + 5) + 1) + 1) + 6) + 15 ≤ _)⟩)
        dsimp only [Pt.U, Pt.locs, Pt.cells, Pt.slots] at X158 l158 y158 z158 st158 hQ158
        subst l158 y158 z158
        obtain ⟨c1, rfl, sc1, Gc1_, Kc158, Nq158⟩ := hQ158
        have N158 := Fr.app N155 Nq158
        have r159 : Steps p.tables e below S0 (T158.setTop (mkF m 367 #[.val (.int q1), .val (.int q2), .val (.int q3), .val (.int q4), .val (.int q5), .val (.int k), .val (.int av), .val (.int p0), .val (.int p1), .val (.int p2), .val (.int xt), .val (.int lst), .val (.int dm), .val (.double v0), .second, .val (.double v1), .second, .val (.double v2), .second, .val (.double jk), .second, .val (.ref po), .unset, .unset] [(.ref c1)])) := r157.trans st158
        have G158_b1 := GP1.keep Kc158 nin0
        have G158_b2 := GV1.keep Kc158 nin0
        have E158_sv_ := hSV.1.keep Kc158
        have E158_po := hSV.1.keep Kc158
        have Z158 : n0 ≤ T158.heap.size := Nat.le_trans ZZ Kc158.1
        have hSVc1 := own_svkeep hSV Kc158
        have G1_ : Gar Z T158.heap c1 .double dm.toNatClampNeg (fun i => .double (own_c k p0 p1 p2 v0 v1 v2 i)) := Gc1_.congr (fun i _ => by
            rw [show ((1 : Int32).toInt - (0 : Int32).toInt).toNat = 1 by first | decide | (rw [z]; decide), show (0 : Int32).toNatClampNeg = 0 by first | decide | (rw [z]; decide), z]
            rfl)
        have r160 : Steps p.tables e below S0 (T158.setTop (mkF m 371 #[.val (.int q1), .val (.int q2), .val (.int q3), .val (.int q4), .val (.int q5), .val (.int k), .val (.int av), .val (.int p0), .val (.int p1), .val (.int p2), .val (.int xt), .val (.int lst), .val (.int dm), .val (.double v0), .second, .val (.double v1), .second, .val (.double v2), .second, .val (.double jk), .second, .val (.ref po), .val (.ref c1), .unset] [(.ref po)])) := by
          refine r159.trans ?_
          show Steps p.tables e below (T158.setTop (mkF m 367 #[.val (.int q1), .val (.int q2), .val (.int q3), .val (.int q4), .val (.int q5), .val (.int k), .val (.int av), .val (.int p0), .val (.int p1), .val (.int p2), .val (.int xt), .val (.int lst), .val (.int dm), .val (.double v0), .second, .val (.double v1), .second, .val (.double v2), .second, .val (.double jk), .second, .val (.ref po), .unset, .unset] [(.ref c1)])) _
          refine XS.astore X158.here hx rfl (hb hby at_367) rfl rfl (l' := #[.val (.int q1), .val (.int q2), .val (.int q3), .val (.int q4), .val (.int q5), .val (.int k), .val (.int av), .val (.int p0), .val (.int p1), .val (.int p2), .val (.int xt), .val (.int lst), .val (.int dm), .val (.double v0), .second, .val (.double v1), .second, .val (.double v2), .second, .val (.double jk), .second, .val (.ref po), .val (.ref c1), .unset]) rfl ?_
          show Steps p.tables e below (T158.setTop (mkF m 369 #[.val (.int q1), .val (.int q2), .val (.int q3), .val (.int q4), .val (.int q5), .val (.int k), .val (.int av), .val (.int p0), .val (.int p1), .val (.int p2), .val (.int xt), .val (.int lst), .val (.int dm), .val (.double v0), .second, .val (.double v1), .second, .val (.double v2), .second, .val (.double jk), .second, .val (.ref po), .val (.ref c1), .unset] [])) _
          refine XS.aload X158.here hx rfl (hb hby at_369) rfl rfl ?_
          exact Steps.refl _
        obtain ⟨cq161, kq161, q161a, q161b, q161c⟩ := isOf hZ rfl hSVc1.1
        obtain ⟨_, _, ⟨T161, L161, k161, n161⟩, -, X161, ⟨Lc161, hQ161, l161, y161, z161⟩, st161⟩ := X158.virtualBack hx (y := (⟨"com/example/polytome/polytome/model/SparseVector", "toArray", "()[D"⟩ : MethodName)) (z := (⟨"com/example/polytome/polytome/model/SparseVector", "toArray", "()[D"⟩ : MethodName)) hown (mvT hZ (hw _ (List.mem_of_getElem? (i := 39) rfl))) (mvT hZ (hw _ (List.mem_of_getElem? (i := 40) rfl))) (notFace_of_selects (args := #[]) (mvT hZ (hw _ (List.mem_of_getElem? (i := 42) rfl)))) (mvT hZ (hw _ (List.mem_of_getElem? (i := 42) rfl))) (mvT hZ (hw _ (List.mem_of_getElem? (i := 41) rfl))) (by decide) (backOf (W := 0) (rmT l Z a0 hw [] po dm b1 b2 (0 : Int32) (1 : Int32) (1 : Int32).toNatClampNeg (own_p p0 p1 p2) (own_v v0 v1 v2) T158.heap n0 Z158 hSVc1 G158_b1 G158_b2 bdm ⟨by first | decide | (rw [z]; decide), by first | decide | (rw [z]; decide), by first | decide | (rw [z]; decide)⟩ hrng) hZ (hw _ (List.mem_of_getElem? (i := 43) rfl)) (hw _ (List.mem_of_getElem? (i := 2) rfl)) (by decide) (by decide)) q161a q161c (g := (mkF m 371 #[.val (.int q1), .val (.int q2), .val (.int q3), .val (.int q4), .val (.int q5), .val (.int k), .val (.int av), .val (.int p0), .val (.int p1), .val (.int p2), .val (.int xt), .val (.int lst), .val (.int dm), .val (.double v0), .second, .val (.double v1), .second, .val (.double v2), .second, .val (.double jk), .second, .val (.ref po), .val (.ref c1), .unset] [(.ref po)])) rfl (by rw [hml]; rfl) (Steps.refl _) (argsL := []) (rest := []) (lenOf pd_3 rfl) rfl (by show 2 * 0 + _ ≤ _; exact Nat.le_of_eq rfl) (hb hby at_371) (fun _ _ => ⟨rfl, rfl, (by decide : (((((0 + 1) + 1) + 1) + 2) + 1) + 1 ≤ _), (by decide : (((((0 + 5) + 1) + 1) + 6) + 15) + 15 ≤ _)⟩)
        dsimp only [Pt.U, Pt.locs, Pt.cells, Pt.slots] at X161 l161 y161 z161 st161 hQ161
        subst l161 y161 z161
        obtain ⟨c2, rfl, sc2, Gc2_, Kc161, Nq161⟩ := hQ161
        have N161 := Fr.app N158 Nq161
        have r162 : Steps p.tables e below S0 (T161.setTop (mkF m 374 #[.val (.int q1), .val (.int q2), .val (.int q3), .val (.int q4), .val (.int q5), .val (.int k), .val (.int av), .val (.int p0), .val (.int p1), .val (.int p2), .val (.int xt), .val (.int lst), .val (.int dm), .val (.double v0), .second, .val (.double v1), .second, .val (.double v2), .second, .val (.double jk), .second, .val (.ref po), .val (.ref c1), .unset] [(.ref c2)])) := r160.trans st161
        have G161_b1 := G158_b1.keep Kc161 nin0
        have G161_b2 := G158_b2.keep Kc161 nin0
        have G161_c1 := G1_.keep Kc161 nin0
        have E161_sv_ := E158_sv_.keep Kc161
        have E161_po := hSVc1.1.keep Kc161
        have Z161 : n0 ≤ T161.heap.size := Nat.le_trans Z158 Kc161.1
        have hSVc2 := own_svkeep hSVc1 Kc161
        have r163 : Steps p.tables e below S0 (T161.setTop (mkF m 376 #[.val (.int q1), .val (.int q2), .val (.int q3), .val (.int q4), .val (.int q5), .val (.int k), .val (.int av), .val (.int p0), .val (.int p1), .val (.int p2), .val (.int xt), .val (.int lst), .val (.int dm), .val (.double v0), .second, .val (.double v1), .second, .val (.double v2), .second, .val (.double jk), .second, .val (.ref po), .val (.ref c1), .val (.ref c2)] [])) := by
          refine r162.trans ?_
          show Steps p.tables e below (T161.setTop (mkF m 374 #[.val (.int q1), .val (.int q2), .val (.int q3), .val (.int q4), .val (.int q5), .val (.int k), .val (.int av), .val (.int p0), .val (.int p1), .val (.int p2), .val (.int xt), .val (.int lst), .val (.int dm), .val (.double v0), .second, .val (.double v1), .second, .val (.double v2), .second, .val (.double jk), .second, .val (.ref po), .val (.ref c1), .unset] [(.ref c2)])) _
          refine XS.astore X161.here hx rfl (hb hby at_374) rfl rfl (l' := #[.val (.int q1), .val (.int q2), .val (.int q3), .val (.int q4), .val (.int q5), .val (.int k), .val (.int av), .val (.int p0), .val (.int p1), .val (.int p2), .val (.int xt), .val (.int lst), .val (.int dm), .val (.double v0), .second, .val (.double v1), .second, .val (.double v2), .second, .val (.double jk), .second, .val (.ref po), .val (.ref c1), .val (.ref c2)]) rfl ?_
          exact Steps.refl _
        have hne_ : c1 ≠ c2 := Nat.ne_of_lt (Nat.lt_of_lt_of_le G1_.lt sc2)
        exact ⟨_, _, _, po, c1, c2, X161.more (by decide) (by decide), rfl, N161, Z161, hne_, G161_c1, r163⟩
      · skip
        have hl : lst.toInt = p1.toInt + 1 := by rcases hlst with ⟨y, h_⟩ | ⟨y, h_⟩ | ⟨y, h_⟩ | ⟨y, h_⟩ <;> first | exact h_ | exact absurd (z.symm.trans y) (by decide)
        have r164 : Steps p.tables e below S0 (s₁.setTop (mkF m 275 #[.val (.int q1), .val (.int q2), .val (.int q3), .val (.int q4), .val (.int q5), .val (.int k), .val (.int av), .val (.int p0), .val (.int p1), .val (.int p2), .val (.int xt), .val (.int lst), .val (.int dm), .val (.double v0), .second, .val (.double v1), .second, .val (.double v2), .second, .val (.double jk), .second, .unset, .unset, .unset] [])) := by
          refine r121.trans ?_
          show Steps p.tables e below (s₁.setTop (mkF m 128 #[.val (.int q1), .val (.int q2), .val (.int q3), .val (.int q4), .val (.int q5), .val (.int k), .val (.int av), .val (.int p0), .val (.int p1), .val (.int p2), .val (.int xt), .val (.int lst), .val (.int dm), .val (.double v0), .second, .val (.double v1), .second, .val (.double v2), .second, .val (.double jk), .second, .unset, .unset, .unset] [(.int av)])) _
          refine XS.ifYes X0.here hx rfl (pc0 := 128) (pc' := 208) rfl (hb hby at_128) rfl ((if0 _ _).trans (teq hav).1) (by decide) (by decide) ?_
          show Steps p.tables e below (s₁.setTop (mkF m 208 #[.val (.int q1), .val (.int q2), .val (.int q3), .val (.int q4), .val (.int q5), .val (.int k), .val (.int av), .val (.int p0), .val (.int p1), .val (.int p2), .val (.int xt), .val (.int lst), .val (.int dm), .val (.double v0), .second, .val (.double v1), .second, .val (.double v2), .second, .val (.double jk), .second, .unset, .unset, .unset] [])) _
          refine XS.iload X0.here hx rfl (hb hby at_208) rfl ?_
          show Steps p.tables e below (s₁.setTop (mkF m 210 #[.val (.int q1), .val (.int q2), .val (.int q3), .val (.int q4), .val (.int q5), .val (.int k), .val (.int av), .val (.int p0), .val (.int p1), .val (.int p2), .val (.int xt), .val (.int lst), .val (.int dm), .val (.double v0), .second, .val (.double v1), .second, .val (.double v2), .second, .val (.double jk), .second, .unset, .unset, .unset] [(.int k)])) _
          refine XS.ifYes X0.here hx rfl (pc0 := 210) (pc' := 233) rfl (hb hby at_210) rfl ((if0 _ _).trans (feq (by rw [z] <;> decide)).2) (by decide) (by decide) ?_
          show Steps p.tables e below (s₁.setTop (mkF m 233 #[.val (.int q1), .val (.int q2), .val (.int q3), .val (.int q4), .val (.int q5), .val (.int k), .val (.int av), .val (.int p0), .val (.int p1), .val (.int p2), .val (.int xt), .val (.int lst), .val (.int dm), .val (.double v0), .second, .val (.double v1), .second, .val (.double v2), .second, .val (.double jk), .second, .unset, .unset, .unset] [])) _
          refine XS.iload X0.here hx rfl (hb hby at_233) rfl ?_
          show Steps p.tables e below (s₁.setTop (mkF m 235 #[.val (.int q1), .val (.int q2), .val (.int q3), .val (.int q4), .val (.int q5), .val (.int k), .val (.int av), .val (.int p0), .val (.int p1), .val (.int p2), .val (.int xt), .val (.int lst), .val (.int dm), .val (.double v0), .second, .val (.double v1), .second, .val (.double v2), .second, .val (.double jk), .second, .unset, .unset, .unset] [(.int k)])) _
          refine XS.iconst X0.here hx rfl (hb hby at_235) ?_
          show Steps p.tables e below (s₁.setTop (mkF m 236 #[.val (.int q1), .val (.int q2), .val (.int q3), .val (.int q4), .val (.int q5), .val (.int k), .val (.int av), .val (.int p0), .val (.int p1), .val (.int p2), .val (.int xt), .val (.int lst), .val (.int dm), .val (.double v0), .second, .val (.double v1), .second, .val (.double v2), .second, .val (.double jk), .second, .unset, .unset, .unset] [(.int (1 : Int32)), (.int k)])) _
          refine XS.icmpYes X0.here hx rfl (pc0 := 236) (pc' := 269) rfl (hb hby at_236) rfl (feq (by rw [z] <;> decide)).2 (by decide) (by decide) ?_
          show Steps p.tables e below (s₁.setTop (mkF m 269 #[.val (.int q1), .val (.int q2), .val (.int q3), .val (.int q4), .val (.int q5), .val (.int k), .val (.int av), .val (.int p0), .val (.int p1), .val (.int p2), .val (.int xt), .val (.int lst), .val (.int dm), .val (.double v0), .second, .val (.double v1), .second, .val (.double v2), .second, .val (.double jk), .second, .unset, .unset, .unset] [])) _
          refine XS.iload X0.here hx rfl (hb hby at_269) rfl ?_
          show Steps p.tables e below (s₁.setTop (mkF m 271 #[.val (.int q1), .val (.int q2), .val (.int q3), .val (.int q4), .val (.int q5), .val (.int k), .val (.int av), .val (.int p0), .val (.int p1), .val (.int p2), .val (.int xt), .val (.int lst), .val (.int dm), .val (.double v0), .second, .val (.double v1), .second, .val (.double v2), .second, .val (.double jk), .second, .unset, .unset, .unset] [(.int k)])) _
          refine XS.iconst X0.here hx rfl (hb hby at_271) ?_
          show Steps p.tables e below (s₁.setTop (mkF m 272 #[.val (.int q1), .val (.int q2), .val (.int q3), .val (.int q4), .val (.int q5), .val (.int k), .val (.int av), .val (.int p0), .val (.int p1), .val (.int p2), .val (.int xt), .val (.int lst), .val (.int dm), .val (.double v0), .second, .val (.double v1), .second, .val (.double v2), .second, .val (.double jk), .second, .unset, .unset, .unset] [(.int (2 : Int32)), (.int k)])) _
          refine XS.icmpNo X0.here hx rfl (hb hby at_272) rfl (teq (by rw [z] <;> decide)).2 ?_
          exact Steps.refl _
        obtain ⟨T165, h165, X165, e165, E165, A165, D165, -, st165⟩ := newO X0 hx hZ hown (hw _ (List.mem_of_getElem? (i := 0) rfl)) (hw _ (List.mem_of_getElem? (i := 1) rfl)) (hw _ (List.mem_of_getElem? (i := 2) rfl)) e0 (g := (mkF m 275 #[.val (.int q1), .val (.int q2), .val (.int q3), .val (.int q4), .val (.int q5), .val (.int k), .val (.int av), .val (.int p0), .val (.int p1), .val (.int p2), .val (.int xt), .val (.int lst), .val (.int dm), .val (.double v0), .second, .val (.double v1), .second, .val (.double v2), .second, .val (.double jk), .second, .unset, .unset, .unset] [])) rfl (hb hby at_275) (by decide) (by decide)
        obtain ⟨po, g165⟩ : ∃ z, z = h0.size := ⟨_, rfl⟩
        rw [← g165] at A165 D165 st165
        have g_po : n0 ≤ po := Nat.le_trans Z0 (Nat.le_of_eq g165.symm)
        have Z165 : n0 ≤ h165.size := Nat.le_trans Z0 E165.1
        have F_po_dimension : Fld Z h165 po "com/example/polytome/polytome/model/SparseVector" "dimension" "I" (.int (0 : Int32)) := D165 (Or.inr (hw _ (List.mem_of_getElem? (i := 30) rfl))) (ty := .int) (by decide)
        have F_po_positions : Fld Z h165 po "com/example/polytome/polytome/model/SparseVector" "positions" "[I" .null := D165 (Or.inr (hw _ (List.mem_of_getElem? (i := 32) rfl))) (ty := (.array .int)) (by decide)
        have F_po_values : Fld Z h165 po "com/example/polytome/polytome/model/SparseVector" "values" "[D" .null := D165 (Or.inr (hw _ (List.mem_of_getElem? (i := 34) rfl))) (ty := (.array .double)) (by decide)
        have F_po_from : Fld Z h165 po "com/example/polytome/polytome/model/SparseVector" "from" "I" (.int (0 : Int32)) := D165 (Or.inr (hw _ (List.mem_of_getElem? (i := 36) rfl))) (ty := .int) (by decide)
        have F_po_to : Fld Z h165 po "com/example/polytome/polytome/model/SparseVector" "to" "I" (.int (0 : Int32)) := D165 (Or.inr (hw _ (List.mem_of_getElem? (i := 38) rfl))) (ty := .int) (by decide)
        have r166 : Steps p.tables e below S0 (T165.setTop (mkF m 278 #[.val (.int q1), .val (.int q2), .val (.int q3), .val (.int q4), .val (.int q5), .val (.int k), .val (.int av), .val (.int p0), .val (.int p1), .val (.int p2), .val (.int xt), .val (.int lst), .val (.int dm), .val (.double v0), .second, .val (.double v1), .second, .val (.double v2), .second, .val (.double jk), .second, .unset, .unset, .unset] [(.ref po)])) := r164.trans (st165 _ (Steps.refl _))
        have r167 : Steps p.tables e below S0 (T165.setTop (mkF m 282 #[.val (.int q1), .val (.int q2), .val (.int q3), .val (.int q4), .val (.int q5), .val (.int k), .val (.int av), .val (.int p0), .val (.int p1), .val (.int p2), .val (.int xt), .val (.int lst), .val (.int dm), .val (.double v0), .second, .val (.double v1), .second, .val (.double v2), .second, .val (.double jk), .second, .unset, .unset, .unset] [(.int (2 : Int32)), (.int dm), (.ref po), (.ref po)])) := by
          refine r166.trans ?_
          show Steps p.tables e below (T165.setTop (mkF m 278 #[.val (.int q1), .val (.int q2), .val (.int q3), .val (.int q4), .val (.int q5), .val (.int k), .val (.int av), .val (.int p0), .val (.int p1), .val (.int p2), .val (.int xt), .val (.int lst), .val (.int dm), .val (.double v0), .second, .val (.double v1), .second, .val (.double v2), .second, .val (.double jk), .second, .unset, .unset, .unset] [(.ref po)])) _
          refine XS.dup X165.here hx rfl (hb hby at_278) rfl rfl ?_
          show Steps p.tables e below (T165.setTop (mkF m 279 #[.val (.int q1), .val (.int q2), .val (.int q3), .val (.int q4), .val (.int q5), .val (.int k), .val (.int av), .val (.int p0), .val (.int p1), .val (.int p2), .val (.int xt), .val (.int lst), .val (.int dm), .val (.double v0), .second, .val (.double v1), .second, .val (.double v2), .second, .val (.double jk), .second, .unset, .unset, .unset] [(.ref po), (.ref po)])) _
          refine XS.iload X165.here hx rfl (hb hby at_279) rfl ?_
          show Steps p.tables e below (T165.setTop (mkF m 281 #[.val (.int q1), .val (.int q2), .val (.int q3), .val (.int q4), .val (.int q5), .val (.int k), .val (.int av), .val (.int p0), .val (.int p1), .val (.int p2), .val (.int xt), .val (.int lst), .val (.int dm), .val (.double v0), .second, .val (.double v1), .second, .val (.double v2), .second, .val (.double jk), .second, .unset, .unset, .unset] [(.int dm), (.ref po), (.ref po)])) _
          refine XS.iconst X165.here hx rfl (hb hby at_281) ?_
          exact Steps.refl _
        obtain ⟨T168, h168, k168, X168, e168, E168, A168, B168, st168⟩ := newPE X165 hx hZ (hw _ (List.mem_of_getElem? (i := 3) rfl)) e165 (g := (mkF m 282 #[.val (.int q1), .val (.int q2), .val (.int q3), .val (.int q4), .val (.int q5), .val (.int k), .val (.int av), .val (.int p0), .val (.int p1), .val (.int p2), .val (.int xt), .val (.int lst), .val (.int dm), .val (.double v0), .second, .val (.double v1), .second, .val (.double v2), .second, .val (.double jk), .second, .unset, .unset, .unset] [(.int (2 : Int32)), (.int dm), (.ref po), (.ref po)])) rfl (hb hby at_282) rfl (by decide) (cap := 2) (by decide) (by decide) (by decide) (by decide) (ad := "[I") (by decide)
        obtain ⟨ps, g168⟩ : ∃ z, z = h165.size := ⟨_, rfl⟩
        rw [← g168] at A168 B168 st168
        have ne_po_ps : po ≠ ps := Nat.ne_of_lt (by rw [g168]; exact A165.lt)
        have G_ps : Gar Z h168 ps .int ((2 : Int32)).toNatClampNeg (fun _ => defaultValue .int) := Gar.new A168
        have g_ps : n0 ≤ ps := Nat.le_trans Z165 (Nat.le_of_eq g168.symm)
        have F168_po_dimension := F_po_dimension.ext E168
        have F168_po_positions := F_po_positions.ext E168
        have F168_po_values := F_po_values.ext E168
        have F168_po_from := F_po_from.ext E168
        have F168_po_to := F_po_to.ext E168
        have E168_po := A165.ext E168
        have Z168 : n0 ≤ h168.size := Nat.le_trans Z165 E168.1
        have r169 : Steps p.tables e below S0 (T168.setTop (mkF m 284 #[.val (.int q1), .val (.int q2), .val (.int q3), .val (.int q4), .val (.int q5), .val (.int k), .val (.int av), .val (.int p0), .val (.int p1), .val (.int p2), .val (.int xt), .val (.int lst), .val (.int dm), .val (.double v0), .second, .val (.double v1), .second, .val (.double v2), .second, .val (.double jk), .second, .unset, .unset, .unset] [(.ref ps), (.int dm), (.ref po), (.ref po)])) := r167.trans (st168 _ (Steps.refl _))
        have r170 : Steps p.tables e below S0 (T168.setTop (mkF m 288 #[.val (.int q1), .val (.int q2), .val (.int q3), .val (.int q4), .val (.int q5), .val (.int k), .val (.int av), .val (.int p0), .val (.int p1), .val (.int p2), .val (.int xt), .val (.int lst), .val (.int dm), .val (.double v0), .second, .val (.double v1), .second, .val (.double v2), .second, .val (.double jk), .second, .unset, .unset, .unset] [(.int p0), (.int (0 : Int32)), (.ref ps), (.ref ps), (.int dm), (.ref po), (.ref po)])) := by
          refine r169.trans ?_
          show Steps p.tables e below (T168.setTop (mkF m 284 #[.val (.int q1), .val (.int q2), .val (.int q3), .val (.int q4), .val (.int q5), .val (.int k), .val (.int av), .val (.int p0), .val (.int p1), .val (.int p2), .val (.int xt), .val (.int lst), .val (.int dm), .val (.double v0), .second, .val (.double v1), .second, .val (.double v2), .second, .val (.double jk), .second, .unset, .unset, .unset] [(.ref ps), (.int dm), (.ref po), (.ref po)])) _
          refine XS.dup X168.here hx rfl (hb hby at_284) rfl rfl ?_
          show Steps p.tables e below (T168.setTop (mkF m 285 #[.val (.int q1), .val (.int q2), .val (.int q3), .val (.int q4), .val (.int q5), .val (.int k), .val (.int av), .val (.int p0), .val (.int p1), .val (.int p2), .val (.int xt), .val (.int lst), .val (.int dm), .val (.double v0), .second, .val (.double v1), .second, .val (.double v2), .second, .val (.double jk), .second, .unset, .unset, .unset] [(.ref ps), (.ref ps), (.int dm), (.ref po), (.ref po)])) _
          refine XS.iconst X168.here hx rfl (hb hby at_285) ?_
          show Steps p.tables e below (T168.setTop (mkF m 286 #[.val (.int q1), .val (.int q2), .val (.int q3), .val (.int q4), .val (.int q5), .val (.int k), .val (.int av), .val (.int p0), .val (.int p1), .val (.int p2), .val (.int xt), .val (.int lst), .val (.int dm), .val (.double v0), .second, .val (.double v1), .second, .val (.double v2), .second, .val (.double jk), .second, .unset, .unset, .unset] [(.int (0 : Int32)), (.ref ps), (.ref ps), (.int dm), (.ref po), (.ref po)])) _
          refine XS.iload X168.here hx rfl (hb hby at_286) rfl ?_
          exact Steps.refl _
        obtain ⟨T171, h171, X171, e171, W171, st171⟩ := stIG X168 hx hZ e168 G_ps (j := (0 : Int32)) (by decide) (by decide) (g := (mkF m 288 #[.val (.int q1), .val (.int q2), .val (.int q3), .val (.int q4), .val (.int q5), .val (.int k), .val (.int av), .val (.int p0), .val (.int p1), .val (.int p2), .val (.int xt), .val (.int lst), .val (.int dm), .val (.double v0), .second, .val (.double v1), .second, .val (.double v2), .second, .val (.double jk), .second, .unset, .unset, .unset] [(.int p0), (.int (0 : Int32)), (.ref ps), (.ref ps), (.int dm), (.ref po), (.ref po)])) rfl rfl (hb hby at_288)
        have N171 := Fr.snoc X171 N0 g_ps
        have G171_ps := G_ps.set W171
        have F171_po_dimension := F168_po_dimension.other W171 (Or.inl ne_po_ps)
        have F171_po_positions := F168_po_positions.other W171 (Or.inl ne_po_ps)
        have F171_po_values := F168_po_values.other W171 (Or.inl ne_po_ps)
        have F171_po_from := F168_po_from.other W171 (Or.inl ne_po_ps)
        have F171_po_to := F168_po_to.other W171 (Or.inl ne_po_ps)
        have E171_po := E168_po.wr W171
        have E171_ps := B168.wr W171
        have Z171 : n0 ≤ h171.size := Nat.le_trans Z168 (Nat.le_of_eq W171.size.symm)
        have r172 : Steps p.tables e below S0 (T171.setTop (mkF m 289 #[.val (.int q1), .val (.int q2), .val (.int q3), .val (.int q4), .val (.int q5), .val (.int k), .val (.int av), .val (.int p0), .val (.int p1), .val (.int p2), .val (.int xt), .val (.int lst), .val (.int dm), .val (.double v0), .second, .val (.double v1), .second, .val (.double v2), .second, .val (.double jk), .second, .unset, .unset, .unset] [(.ref ps), (.int dm), (.ref po), (.ref po)])) := r170.trans (st171 _ (Steps.refl _))
        have r173 : Steps p.tables e below S0 (T171.setTop (mkF m 293 #[.val (.int q1), .val (.int q2), .val (.int q3), .val (.int q4), .val (.int q5), .val (.int k), .val (.int av), .val (.int p0), .val (.int p1), .val (.int p2), .val (.int xt), .val (.int lst), .val (.int dm), .val (.double v0), .second, .val (.double v1), .second, .val (.double v2), .second, .val (.double jk), .second, .unset, .unset, .unset] [(.int p1), (.int (1 : Int32)), (.ref ps), (.ref ps), (.int dm), (.ref po), (.ref po)])) := by
          refine r172.trans ?_
          show Steps p.tables e below (T171.setTop (mkF m 289 #[.val (.int q1), .val (.int q2), .val (.int q3), .val (.int q4), .val (.int q5), .val (.int k), .val (.int av), .val (.int p0), .val (.int p1), .val (.int p2), .val (.int xt), .val (.int lst), .val (.int dm), .val (.double v0), .second, .val (.double v1), .second, .val (.double v2), .second, .val (.double jk), .second, .unset, .unset, .unset] [(.ref ps), (.int dm), (.ref po), (.ref po)])) _
          refine XS.dup X171.here hx rfl (hb hby at_289) rfl rfl ?_
          show Steps p.tables e below (T171.setTop (mkF m 290 #[.val (.int q1), .val (.int q2), .val (.int q3), .val (.int q4), .val (.int q5), .val (.int k), .val (.int av), .val (.int p0), .val (.int p1), .val (.int p2), .val (.int xt), .val (.int lst), .val (.int dm), .val (.double v0), .second, .val (.double v1), .second, .val (.double v2), .second, .val (.double jk), .second, .unset, .unset, .unset] [(.ref ps), (.ref ps), (.int dm), (.ref po), (.ref po)])) _
          refine XS.iconst X171.here hx rfl (hb hby at_290) ?_
          show Steps p.tables e below (T171.setTop (mkF m 291 #[.val (.int q1), .val (.int q2), .val (.int q3), .val (.int q4), .val (.int q5), .val (.int k), .val (.int av), .val (.int p0), .val (.int p1), .val (.int p2), .val (.int xt), .val (.int lst), .val (.int dm), .val (.double v0), .second, .val (.double v1), .second, .val (.double v2), .second, .val (.double jk), .second, .unset, .unset, .unset] [(.int (1 : Int32)), (.ref ps), (.ref ps), (.int dm), (.ref po), (.ref po)])) _
          refine XS.iload X171.here hx rfl (hb hby at_291) rfl ?_
          exact Steps.refl _
        obtain ⟨T174, h174, X174, e174, W174, st174⟩ := stIG X171 hx hZ e171 G171_ps (j := (1 : Int32)) (by decide) (by decide) (g := (mkF m 293 #[.val (.int q1), .val (.int q2), .val (.int q3), .val (.int q4), .val (.int q5), .val (.int k), .val (.int av), .val (.int p0), .val (.int p1), .val (.int p2), .val (.int xt), .val (.int lst), .val (.int dm), .val (.double v0), .second, .val (.double v1), .second, .val (.double v2), .second, .val (.double jk), .second, .unset, .unset, .unset] [(.int p1), (.int (1 : Int32)), (.ref ps), (.ref ps), (.int dm), (.ref po), (.ref po)])) rfl rfl (hb hby at_293)
        have N174 := Fr.snoc X174 N171 g_ps
        have G174_ps := G171_ps.set W174
        have F174_po_dimension := F171_po_dimension.other W174 (Or.inl ne_po_ps)
        have F174_po_positions := F171_po_positions.other W174 (Or.inl ne_po_ps)
        have F174_po_values := F171_po_values.other W174 (Or.inl ne_po_ps)
        have F174_po_from := F171_po_from.other W174 (Or.inl ne_po_ps)
        have F174_po_to := F171_po_to.other W174 (Or.inl ne_po_ps)
        have E174_po := E171_po.wr W174
        have E174_ps := E171_ps.wr W174
        have Z174 : n0 ≤ h174.size := Nat.le_trans Z171 (Nat.le_of_eq W174.size.symm)
        have r175 : Steps p.tables e below S0 (T174.setTop (mkF m 294 #[.val (.int q1), .val (.int q2), .val (.int q3), .val (.int q4), .val (.int q5), .val (.int k), .val (.int av), .val (.int p0), .val (.int p1), .val (.int p2), .val (.int xt), .val (.int lst), .val (.int dm), .val (.double v0), .second, .val (.double v1), .second, .val (.double v2), .second, .val (.double jk), .second, .unset, .unset, .unset] [(.ref ps), (.int dm), (.ref po), (.ref po)])) := r173.trans (st174 _ (Steps.refl _))
        have r176 : Steps p.tables e below S0 (T174.setTop (mkF m 295 #[.val (.int q1), .val (.int q2), .val (.int q3), .val (.int q4), .val (.int q5), .val (.int k), .val (.int av), .val (.int p0), .val (.int p1), .val (.int p2), .val (.int xt), .val (.int lst), .val (.int dm), .val (.double v0), .second, .val (.double v1), .second, .val (.double v2), .second, .val (.double jk), .second, .unset, .unset, .unset] [(.int (2 : Int32)), (.ref ps), (.int dm), (.ref po), (.ref po)])) := by
          refine r175.trans ?_
          show Steps p.tables e below (T174.setTop (mkF m 294 #[.val (.int q1), .val (.int q2), .val (.int q3), .val (.int q4), .val (.int q5), .val (.int k), .val (.int av), .val (.int p0), .val (.int p1), .val (.int p2), .val (.int xt), .val (.int lst), .val (.int dm), .val (.double v0), .second, .val (.double v1), .second, .val (.double v2), .second, .val (.double jk), .second, .unset, .unset, .unset] [(.ref ps), (.int dm), (.ref po), (.ref po)])) _
          refine XS.iconst X174.here hx rfl (hb hby at_294) ?_
          exact Steps.refl _
        obtain ⟨T177, h177, k177, X177, e177, E177, A177, B177, st177⟩ := newPE X174 hx hZ (hw _ (List.mem_of_getElem? (i := 4) rfl)) e174 (g := (mkF m 295 #[.val (.int q1), .val (.int q2), .val (.int q3), .val (.int q4), .val (.int q5), .val (.int k), .val (.int av), .val (.int p0), .val (.int p1), .val (.int p2), .val (.int xt), .val (.int lst), .val (.int dm), .val (.double v0), .second, .val (.double v1), .second, .val (.double v2), .second, .val (.double jk), .second, .unset, .unset, .unset] [(.int (2 : Int32)), (.ref ps), (.int dm), (.ref po), (.ref po)])) rfl (hb hby at_295) rfl (by decide) (cap := 2) (by decide) (by decide) (by decide) (by decide) (ad := "[D") (by decide)
        obtain ⟨vs, g177⟩ : ∃ z, z = h174.size := ⟨_, rfl⟩
        rw [← g177] at A177 B177 st177
        have ne_ps_vs : ps ≠ vs := Nat.ne_of_lt (by rw [g177]; exact G174_ps.lt)
        have ne_po_vs : po ≠ vs := Nat.ne_of_lt (by rw [g177]; exact E174_po.lt)
        have G_vs : Gar Z h177 vs .double ((2 : Int32)).toNatClampNeg (fun _ => defaultValue .double) := Gar.new A177
        have g_vs : n0 ≤ vs := Nat.le_trans Z174 (Nat.le_of_eq g177.symm)
        have G177_ps := G174_ps.ext E177
        have F177_po_dimension := F174_po_dimension.ext E177
        have F177_po_positions := F174_po_positions.ext E177
        have F177_po_values := F174_po_values.ext E177
        have F177_po_from := F174_po_from.ext E177
        have F177_po_to := F174_po_to.ext E177
        have E177_po := E174_po.ext E177
        have E177_ps := E174_ps.ext E177
        have Z177 : n0 ≤ h177.size := Nat.le_trans Z174 E177.1
        have r178 : Steps p.tables e below S0 (T177.setTop (mkF m 297 #[.val (.int q1), .val (.int q2), .val (.int q3), .val (.int q4), .val (.int q5), .val (.int k), .val (.int av), .val (.int p0), .val (.int p1), .val (.int p2), .val (.int xt), .val (.int lst), .val (.int dm), .val (.double v0), .second, .val (.double v1), .second, .val (.double v2), .second, .val (.double jk), .second, .unset, .unset, .unset] [(.ref vs), (.ref ps), (.int dm), (.ref po), (.ref po)])) := r176.trans (st177 _ (Steps.refl _))
        have r179 : Steps p.tables e below S0 (T177.setTop (mkF m 301 #[.val (.int q1), .val (.int q2), .val (.int q3), .val (.int q4), .val (.int q5), .val (.int k), .val (.int av), .val (.int p0), .val (.int p1), .val (.int p2), .val (.int xt), .val (.int lst), .val (.int dm), .val (.double v0), .second, .val (.double v1), .second, .val (.double v2), .second, .val (.double jk), .second, .unset, .unset, .unset] [(.double v0), (.int (0 : Int32)), (.ref vs), (.ref vs), (.ref ps), (.int dm), (.ref po), (.ref po)])) := by
          refine r178.trans ?_
          show Steps p.tables e below (T177.setTop (mkF m 297 #[.val (.int q1), .val (.int q2), .val (.int q3), .val (.int q4), .val (.int q5), .val (.int k), .val (.int av), .val (.int p0), .val (.int p1), .val (.int p2), .val (.int xt), .val (.int lst), .val (.int dm), .val (.double v0), .second, .val (.double v1), .second, .val (.double v2), .second, .val (.double jk), .second, .unset, .unset, .unset] [(.ref vs), (.ref ps), (.int dm), (.ref po), (.ref po)])) _
          refine XS.dup X177.here hx rfl (hb hby at_297) rfl rfl ?_
          show Steps p.tables e below (T177.setTop (mkF m 298 #[.val (.int q1), .val (.int q2), .val (.int q3), .val (.int q4), .val (.int q5), .val (.int k), .val (.int av), .val (.int p0), .val (.int p1), .val (.int p2), .val (.int xt), .val (.int lst), .val (.int dm), .val (.double v0), .second, .val (.double v1), .second, .val (.double v2), .second, .val (.double jk), .second, .unset, .unset, .unset] [(.ref vs), (.ref vs), (.ref ps), (.int dm), (.ref po), (.ref po)])) _
          refine XS.iconst X177.here hx rfl (hb hby at_298) ?_
          show Steps p.tables e below (T177.setTop (mkF m 299 #[.val (.int q1), .val (.int q2), .val (.int q3), .val (.int q4), .val (.int q5), .val (.int k), .val (.int av), .val (.int p0), .val (.int p1), .val (.int p2), .val (.int xt), .val (.int lst), .val (.int dm), .val (.double v0), .second, .val (.double v1), .second, .val (.double v2), .second, .val (.double jk), .second, .unset, .unset, .unset] [(.int (0 : Int32)), (.ref vs), (.ref vs), (.ref ps), (.int dm), (.ref po), (.ref po)])) _
          refine XS.dload X177.here hx rfl (hb hby at_299) rfl ?_
          exact Steps.refl _
        obtain ⟨T180, h180, X180, e180, W180, st180⟩ := stDG X177 hx hZ e177 G_vs (j := (0 : Int32)) (by decide) (by decide) (g := (mkF m 301 #[.val (.int q1), .val (.int q2), .val (.int q3), .val (.int q4), .val (.int q5), .val (.int k), .val (.int av), .val (.int p0), .val (.int p1), .val (.int p2), .val (.int xt), .val (.int lst), .val (.int dm), .val (.double v0), .second, .val (.double v1), .second, .val (.double v2), .second, .val (.double jk), .second, .unset, .unset, .unset] [(.double v0), (.int (0 : Int32)), (.ref vs), (.ref vs), (.ref ps), (.int dm), (.ref po), (.ref po)])) rfl rfl (hb hby at_301)
        have N180 := Fr.snoc X180 N174 g_vs
        have G180_ps := G177_ps.other W180 ne_ps_vs
        have G180_vs := G_vs.set W180
        have F180_po_dimension := F177_po_dimension.other W180 (Or.inl ne_po_vs)
        have F180_po_positions := F177_po_positions.other W180 (Or.inl ne_po_vs)
        have F180_po_values := F177_po_values.other W180 (Or.inl ne_po_vs)
        have F180_po_from := F177_po_from.other W180 (Or.inl ne_po_vs)
        have F180_po_to := F177_po_to.other W180 (Or.inl ne_po_vs)
        have E180_po := E177_po.wr W180
        have E180_ps := E177_ps.wr W180
        have E180_vs := B177.wr W180
        have Z180 : n0 ≤ h180.size := Nat.le_trans Z177 (Nat.le_of_eq W180.size.symm)
        have r181 : Steps p.tables e below S0 (T180.setTop (mkF m 302 #[.val (.int q1), .val (.int q2), .val (.int q3), .val (.int q4), .val (.int q5), .val (.int k), .val (.int av), .val (.int p0), .val (.int p1), .val (.int p2), .val (.int xt), .val (.int lst), .val (.int dm), .val (.double v0), .second, .val (.double v1), .second, .val (.double v2), .second, .val (.double jk), .second, .unset, .unset, .unset] [(.ref vs), (.ref ps), (.int dm), (.ref po), (.ref po)])) := r179.trans (st180 _ (Steps.refl _))
        have r182 : Steps p.tables e below S0 (T180.setTop (mkF m 306 #[.val (.int q1), .val (.int q2), .val (.int q3), .val (.int q4), .val (.int q5), .val (.int k), .val (.int av), .val (.int p0), .val (.int p1), .val (.int p2), .val (.int xt), .val (.int lst), .val (.int dm), .val (.double v0), .second, .val (.double v1), .second, .val (.double v2), .second, .val (.double jk), .second, .unset, .unset, .unset] [(.double v1), (.int (1 : Int32)), (.ref vs), (.ref vs), (.ref ps), (.int dm), (.ref po), (.ref po)])) := by
          refine r181.trans ?_
          show Steps p.tables e below (T180.setTop (mkF m 302 #[.val (.int q1), .val (.int q2), .val (.int q3), .val (.int q4), .val (.int q5), .val (.int k), .val (.int av), .val (.int p0), .val (.int p1), .val (.int p2), .val (.int xt), .val (.int lst), .val (.int dm), .val (.double v0), .second, .val (.double v1), .second, .val (.double v2), .second, .val (.double jk), .second, .unset, .unset, .unset] [(.ref vs), (.ref ps), (.int dm), (.ref po), (.ref po)])) _
          refine XS.dup X180.here hx rfl (hb hby at_302) rfl rfl ?_
          show Steps p.tables e below (T180.setTop (mkF m 303 #[.val (.int q1), .val (.int q2), .val (.int q3), .val (.int q4), .val (.int q5), .val (.int k), .val (.int av), .val (.int p0), .val (.int p1), .val (.int p2), .val (.int xt), .val (.int lst), .val (.int dm), .val (.double v0), .second, .val (.double v1), .second, .val (.double v2), .second, .val (.double jk), .second, .unset, .unset, .unset] [(.ref vs), (.ref vs), (.ref ps), (.int dm), (.ref po), (.ref po)])) _
          refine XS.iconst X180.here hx rfl (hb hby at_303) ?_
          show Steps p.tables e below (T180.setTop (mkF m 304 #[.val (.int q1), .val (.int q2), .val (.int q3), .val (.int q4), .val (.int q5), .val (.int k), .val (.int av), .val (.int p0), .val (.int p1), .val (.int p2), .val (.int xt), .val (.int lst), .val (.int dm), .val (.double v0), .second, .val (.double v1), .second, .val (.double v2), .second, .val (.double jk), .second, .unset, .unset, .unset] [(.int (1 : Int32)), (.ref vs), (.ref vs), (.ref ps), (.int dm), (.ref po), (.ref po)])) _
          refine XS.dload X180.here hx rfl (hb hby at_304) rfl ?_
          exact Steps.refl _
        obtain ⟨T183, h183, X183, e183, W183, st183⟩ := stDG X180 hx hZ e180 G180_vs (j := (1 : Int32)) (by decide) (by decide) (g := (mkF m 306 #[.val (.int q1), .val (.int q2), .val (.int q3), .val (.int q4), .val (.int q5), .val (.int k), .val (.int av), .val (.int p0), .val (.int p1), .val (.int p2), .val (.int xt), .val (.int lst), .val (.int dm), .val (.double v0), .second, .val (.double v1), .second, .val (.double v2), .second, .val (.double jk), .second, .unset, .unset, .unset] [(.double v1), (.int (1 : Int32)), (.ref vs), (.ref vs), (.ref ps), (.int dm), (.ref po), (.ref po)])) rfl rfl (hb hby at_306)
        have N183 := Fr.snoc X183 N180 g_vs
        have G183_ps := G180_ps.other W183 ne_ps_vs
        have G183_vs := G180_vs.set W183
        have F183_po_dimension := F180_po_dimension.other W183 (Or.inl ne_po_vs)
        have F183_po_positions := F180_po_positions.other W183 (Or.inl ne_po_vs)
        have F183_po_values := F180_po_values.other W183 (Or.inl ne_po_vs)
        have F183_po_from := F180_po_from.other W183 (Or.inl ne_po_vs)
        have F183_po_to := F180_po_to.other W183 (Or.inl ne_po_vs)
        have E183_po := E180_po.wr W183
        have E183_ps := E180_ps.wr W183
        have E183_vs := E180_vs.wr W183
        have Z183 : n0 ≤ h183.size := Nat.le_trans Z180 (Nat.le_of_eq W183.size.symm)
        have r184 : Steps p.tables e below S0 (T183.setTop (mkF m 307 #[.val (.int q1), .val (.int q2), .val (.int q3), .val (.int q4), .val (.int q5), .val (.int k), .val (.int av), .val (.int p0), .val (.int p1), .val (.int p2), .val (.int xt), .val (.int lst), .val (.int dm), .val (.double v0), .second, .val (.double v1), .second, .val (.double v2), .second, .val (.double jk), .second, .unset, .unset, .unset] [(.ref vs), (.ref ps), (.int dm), (.ref po), (.ref po)])) := r182.trans (st183 _ (Steps.refl _))
        have tk0 : (2 : Int32).toNatClampNeg = 2 := by decide
        have GP : Gar Z h183 ps .int (2 : Int32).toNatClampNeg (fun i => .int (own_p p0 p1 p2 i)) := G183_ps.congr (fun i hi => by
            rw [tk0] at hi
            have hi2 : i = 0 ∨ i = 1 := by omega
            rcases hi2 with rfl | rfl <;> rfl)
        have GV : Gar Z h183 vs .double (2 : Int32).toNatClampNeg (fun i => .double (own_v v0 v1 v2 i)) := G183_vs.congr (fun i hi => by
            rw [tk0] at hi
            have hi2 : i = 0 ∨ i = 1 := by omega
            rcases hi2 with rfl | rfl <;> rfl)
        have posp : ∀ i : Nat, (i : Int) < (2 : Int32).toInt → 0 ≤ (own_p p0 p1 p2 i).toInt ∧ (own_p p0 p1 p2 i).toInt < dm.toInt := by
          intro i hi
          rw [show (2 : Int32).toInt = 2 by decide] at hi
          have hi2 : i = 0 ∨ i = 1 := by omega
          rcases hi2 with rfl | rfl
          · show 0 ≤ p0.toInt ∧ p0.toInt < dm.toInt; omega
          · show 0 ≤ p1.toInt ∧ p1.toInt < dm.toInt; omega
        have incp : ∀ i : Nat, (i : Int) + 1 < (2 : Int32).toInt → (own_p p0 p1 p2 i).toInt < (own_p p0 p1 p2 (i + 1)).toInt := by
          intro i hi
          rw [show (2 : Int32).toInt = 2 by decide] at hi
          have hi2 : i = 0 := by omega
          rcases hi2 with rfl
          · show p0.toInt < p1.toInt; omega
        obtain ⟨_, _, ⟨T185, L185, k185, n185⟩, -, X185, ⟨Lc185, hQ185, l185, y185, z185⟩, st185⟩ := X183.specialBack hx (y := (⟨"com/example/polytome/polytome/model/SparseVector", "<init>", "(I[I[D)V"⟩ : MethodName)) rfl hown (mvT hZ (hw _ (List.mem_of_getElem? (i := 5) rfl))) (mvT hZ (hw _ (List.mem_of_getElem? (i := 6) rfl))) (mvT hZ (hw _ (List.mem_of_getElem? (i := 7) rfl))) (by decide) (backOf (W := 1) (rm3 l Z a0 hw [] po dm ps vs (2 : Int32) (own_p p0 p1 p2) (own_v v0 v1 v2) h183 n0 Z183 E183_po g_po F183_po_dimension F183_po_positions F183_po_values F183_po_from F183_po_to GP GV E183_ps E183_vs ne_po_ps ne_po_vs (by decide) posp incp) hZ (hw _ (List.mem_of_getElem? (i := 7) rfl)) (hw _ (List.mem_of_getElem? (i := 2) rfl)) (by decide) (by decide)) (g := (mkF m 307 #[.val (.int q1), .val (.int q2), .val (.int q3), .val (.int q4), .val (.int q5), .val (.int k), .val (.int av), .val (.int p0), .val (.int p1), .val (.int p2), .val (.int xt), .val (.int lst), .val (.int dm), .val (.double v0), .second, .val (.double v1), .second, .val (.double v2), .second, .val (.double jk), .second, .unset, .unset, .unset] [(.ref vs), (.ref ps), (.int dm), (.ref po), (.ref po)])) rfl (by rw [hml]; rfl) (Steps.refl _) (a := po) (argsL := [(.int dm), (.ref ps), (.ref vs)]) (rest := [(.ref po)]) (lenOf pd_2 rfl) rfl (by show 2 * 0 + _ ≤ _; exact Nat.le_of_eq rfl) (hb hby at_307) (fun _ _ => ⟨rfl, e183, (by decide : (((0 + 1) + 1) + 1) + 2 ≤ _), (by decide : (((0 + 5) + 2) + 2) + 6 ≤ _)⟩)
        dsimp only [Pt.U, Pt.locs, Pt.cells, Pt.slots] at X185 l185 y185 z185 st185 hQ185
        subst l185 y185 z185
        obtain ⟨rfl, Nq185, b1, b2, hSV, GP1, GV1, ZZ⟩ := hQ185
        have N185 := Fr.app N183 Nq185
        have r186 : Steps p.tables e below S0 (T185.setTop (mkF m 310 #[.val (.int q1), .val (.int q2), .val (.int q3), .val (.int q4), .val (.int q5), .val (.int k), .val (.int av), .val (.int p0), .val (.int p1), .val (.int p2), .val (.int xt), .val (.int lst), .val (.int dm), .val (.double v0), .second, .val (.double v1), .second, .val (.double v2), .second, .val (.double jk), .second, .unset, .unset, .unset] [(.ref po)])) := r184.trans st185
        have hrng : ∀ i : Nat, (0 : Int32).toInt ≤ (i : Int) → (i : Int) < (2 : Int32).toInt → 0 ≤ ((own_p p0 p1 p2) i).toInt ∧ ((own_p p0 p1 p2) i).toInt < dm.toInt := by
          intro i h1 h2
          rw [show (0 : Int32).toInt = 0 by first | decide | (rw [z]; decide)] at h1
          rw [show (2 : Int32).toInt = 2 by first | decide | (rw [z]; decide)] at h2
          have hi : i = 0 ∨ i = 1 := by omega
          rcases hi with rfl | rfl
          · show 0 ≤ p0.toInt ∧ p0.toInt < dm.toInt; omega
          · show 0 ≤ p1.toInt ∧ p1.toInt < dm.toInt; omega
        have r187 : Steps p.tables e below S0 (T185.setTop (mkF m 364 #[.val (.int q1), .val (.int q2), .val (.int q3), .val (.int q4), .val (.int q5), .val (.int k), .val (.int av), .val (.int p0), .val (.int p1), .val (.int p2), .val (.int xt), .val (.int lst), .val (.int dm), .val (.double v0), .second, .val (.double v1), .second, .val (.double v2), .second, .val (.double jk), .second, .val (.ref po), .unset, .unset] [(.ref po)])) := by
          refine r186.trans ?_
          show Steps p.tables e below (T185.setTop (mkF m 310 #[.val (.int q1), .val (.int q2), .val (.int q3), .val (.int q4), .val (.int q5), .val (.int k), .val (.int av), .val (.int p0), .val (.int p1), .val (.int p2), .val (.int xt), .val (.int lst), .val (.int dm), .val (.double v0), .second, .val (.double v1), .second, .val (.double v2), .second, .val (.double jk), .second, .unset, .unset, .unset] [(.ref po)])) _
          refine XS.astore X185.here hx rfl (hb hby at_310) rfl rfl (l' := #[.val (.int q1), .val (.int q2), .val (.int q3), .val (.int q4), .val (.int q5), .val (.int k), .val (.int av), .val (.int p0), .val (.int p1), .val (.int p2), .val (.int xt), .val (.int lst), .val (.int dm), .val (.double v0), .second, .val (.double v1), .second, .val (.double v2), .second, .val (.double jk), .second, .val (.ref po), .unset, .unset]) rfl ?_
          show Steps p.tables e below (T185.setTop (mkF m 312 #[.val (.int q1), .val (.int q2), .val (.int q3), .val (.int q4), .val (.int q5), .val (.int k), .val (.int av), .val (.int p0), .val (.int p1), .val (.int p2), .val (.int xt), .val (.int lst), .val (.int dm), .val (.double v0), .second, .val (.double v1), .second, .val (.double v2), .second, .val (.double jk), .second, .val (.ref po), .unset, .unset] [])) _
          refine XS.goto X185.here hx rfl (pc0 := 312) (pc' := 362) rfl (hb hby at_312) (by decide) (by decide) ?_
          show Steps p.tables e below (T185.setTop (mkF m 362 #[.val (.int q1), .val (.int q2), .val (.int q3), .val (.int q4), .val (.int q5), .val (.int k), .val (.int av), .val (.int p0), .val (.int p1), .val (.int p2), .val (.int xt), .val (.int lst), .val (.int dm), .val (.double v0), .second, .val (.double v1), .second, .val (.double v2), .second, .val (.double jk), .second, .val (.ref po), .unset, .unset] [])) _
          refine XS.aload X185.here hx rfl (hb hby at_362) rfl rfl ?_
          exact Steps.refl _
        obtain ⟨cq188, kq188, q188a, q188b, q188c⟩ := isOf hZ rfl hSV.1
        obtain ⟨_, _, ⟨T188, L188, k188, n188⟩, -, X188, ⟨Lc188, hQ188, l188, y188, z188⟩, st188⟩ := X185.virtualBack hx (y := (⟨"com/example/polytome/polytome/model/SparseVector", "toArray", "()[D"⟩ : MethodName)) (z := (⟨"com/example/polytome/polytome/model/SparseVector", "toArray", "()[D"⟩ : MethodName)) hown (mvT hZ (hw _ (List.mem_of_getElem? (i := 39) rfl))) (mvT hZ (hw _ (List.mem_of_getElem? (i := 40) rfl))) (notFace_of_selects (args := #[]) (mvT hZ (hw _ (List.mem_of_getElem? (i := 42) rfl)))) (mvT hZ (hw _ (List.mem_of_getElem? (i := 42) rfl))) (mvT hZ (hw _ (List.mem_of_getElem? (i := 41) rfl))) (by decide) (backOf (W := 0) (rmT l Z a0 hw [] po dm b1 b2 (0 : Int32) (2 : Int32) (2 : Int32).toNatClampNeg (own_p p0 p1 p2) (own_v v0 v1 v2) T185.heap n0 ZZ hSV GP1 GV1 bdm ⟨by first | decide | (rw [z]; decide), by first | decide | (rw [z]; decide), by first | decide | (rw [z]; decide)⟩ hrng) hZ (hw _ (List.mem_of_getElem? (i := 43) rfl)) (hw _ (List.mem_of_getElem? (i := 2) rfl)) (by decide) (by decide)) q188a q188c (g := (mkF m 364 #[.val (.int q1), .val (.int q2), .val (.int q3), .val (.int q4), .val (.int q5), .val (.int k), .val (.int av), .val (.int p0), .val (.int p1), .val (.int p2), .val (.int xt), .val (.int lst), .val (.int dm), .val (.double v0), .second, .val (.double v1), .second, .val (.double v2), .second, .val (.double jk), .second, .val (.ref po), .unset, .unset] [(.ref po)])) rfl (by rw [hml]; rfl) (Steps.refl _) (argsL := []) (rest := []) (lenOf pd_3 rfl) rfl (by show 2 * 0 + _ ≤ _; exact Nat.le_of_eq rfl) (hb hby at_364) (fun _ _ => ⟨rfl, rfl, (by decide : ((((0 + 1) + 1) + 1) + 2) + 1 ≤ _), (by decide : ((((0 + 5) + 2) + 2) + 6) + 15 ≤ _)⟩)
        dsimp only [Pt.U, Pt.locs, Pt.cells, Pt.slots] at X188 l188 y188 z188 st188 hQ188
        subst l188 y188 z188
        obtain ⟨c1, rfl, sc1, Gc1_, Kc188, Nq188⟩ := hQ188
        have N188 := Fr.app N185 Nq188
        have r189 : Steps p.tables e below S0 (T188.setTop (mkF m 367 #[.val (.int q1), .val (.int q2), .val (.int q3), .val (.int q4), .val (.int q5), .val (.int k), .val (.int av), .val (.int p0), .val (.int p1), .val (.int p2), .val (.int xt), .val (.int lst), .val (.int dm), .val (.double v0), .second, .val (.double v1), .second, .val (.double v2), .second, .val (.double jk), .second, .val (.ref po), .unset, .unset] [(.ref c1)])) := r187.trans st188
        have G188_b1 := GP1.keep Kc188 nin0
        have G188_b2 := GV1.keep Kc188 nin0
        have E188_sv_ := hSV.1.keep Kc188
        have E188_po := hSV.1.keep Kc188
        have Z188 : n0 ≤ T188.heap.size := Nat.le_trans ZZ Kc188.1
        have hSVc1 := own_svkeep hSV Kc188
        have G1_ : Gar Z T188.heap c1 .double dm.toNatClampNeg (fun i => .double (own_c k p0 p1 p2 v0 v1 v2 i)) := Gc1_.congr (fun i _ => by
            rw [show ((2 : Int32).toInt - (0 : Int32).toInt).toNat = 2 by first | decide | (rw [z]; decide), show (0 : Int32).toNatClampNeg = 0 by first | decide | (rw [z]; decide), z]
            rfl)
        have r190 : Steps p.tables e below S0 (T188.setTop (mkF m 371 #[.val (.int q1), .val (.int q2), .val (.int q3), .val (.int q4), .val (.int q5), .val (.int k), .val (.int av), .val (.int p0), .val (.int p1), .val (.int p2), .val (.int xt), .val (.int lst), .val (.int dm), .val (.double v0), .second, .val (.double v1), .second, .val (.double v2), .second, .val (.double jk), .second, .val (.ref po), .val (.ref c1), .unset] [(.ref po)])) := by
          refine r189.trans ?_
          show Steps p.tables e below (T188.setTop (mkF m 367 #[.val (.int q1), .val (.int q2), .val (.int q3), .val (.int q4), .val (.int q5), .val (.int k), .val (.int av), .val (.int p0), .val (.int p1), .val (.int p2), .val (.int xt), .val (.int lst), .val (.int dm), .val (.double v0), .second, .val (.double v1), .second, .val (.double v2), .second, .val (.double jk), .second, .val (.ref po), .unset, .unset] [(.ref c1)])) _
          refine XS.astore X188.here hx rfl (hb hby at_367) rfl rfl (l' := #[.val (.int q1), .val (.int q2), .val (.int q3), .val (.int q4), .val (.int q5), .val (.int k), .val (.int av), .val (.int p0), .val (.int p1), .val (.int p2), .val (.int xt), .val (.int lst), .val (.int dm), .val (.double v0), .second, .val (.double v1), .second, .val (.double v2), .second, .val (.double jk), .second, .val (.ref po), .val (.ref c1), .unset]) rfl ?_
          show Steps p.tables e below (T188.setTop (mkF m 369 #[.val (.int q1), .val (.int q2), .val (.int q3), .val (.int q4), .val (.int q5), .val (.int k), .val (.int av), .val (.int p0), .val (.int p1), .val (.int p2), .val (.int xt), .val (.int lst), .val (.int dm), .val (.double v0), .second, .val (.double v1), .second, .val (.double v2), .second, .val (.double jk), .second, .val (.ref po), .val (.ref c1), .unset] [])) _
          refine XS.aload X188.here hx rfl (hb hby at_369) rfl rfl ?_
          exact Steps.refl _
        obtain ⟨cq191, kq191, q191a, q191b, q191c⟩ := isOf hZ rfl hSVc1.1
        obtain ⟨_, _, ⟨T191, L191, k191, n191⟩, -, X191, ⟨Lc191, hQ191, l191, y191, z191⟩, st191⟩ := X188.virtualBack hx (y := (⟨"com/example/polytome/polytome/model/SparseVector", "toArray", "()[D"⟩ : MethodName)) (z := (⟨"com/example/polytome/polytome/model/SparseVector", "toArray", "()[D"⟩ : MethodName)) hown (mvT hZ (hw _ (List.mem_of_getElem? (i := 39) rfl))) (mvT hZ (hw _ (List.mem_of_getElem? (i := 40) rfl))) (notFace_of_selects (args := #[]) (mvT hZ (hw _ (List.mem_of_getElem? (i := 42) rfl)))) (mvT hZ (hw _ (List.mem_of_getElem? (i := 42) rfl))) (mvT hZ (hw _ (List.mem_of_getElem? (i := 41) rfl))) (by decide) (backOf (W := 0) (rmT l Z a0 hw [] po dm b1 b2 (0 : Int32) (2 : Int32) (2 : Int32).toNatClampNeg (own_p p0 p1 p2) (own_v v0 v1 v2) T188.heap n0 Z188 hSVc1 G188_b1 G188_b2 bdm ⟨by first | decide | (rw [z]; decide), by first | decide | (rw [z]; decide), by first | decide | (rw [z]; decide)⟩ hrng) hZ (hw _ (List.mem_of_getElem? (i := 43) rfl)) (hw _ (List.mem_of_getElem? (i := 2) rfl)) (by decide) (by decide)) q191a q191c (g := (mkF m 371 #[.val (.int q1), .val (.int q2), .val (.int q3), .val (.int q4), .val (.int q5), .val (.int k), .val (.int av), .val (.int p0), .val (.int p1), .val (.int p2), .val (.int xt), .val (.int lst), .val (.int dm), .val (.double v0), .second, .val (.double v1), .second, .val (.double v2), .second, .val (.double jk), .second, .val (.ref po), .val (.ref c1), .unset] [(.ref po)])) rfl (by rw [hml]; rfl) (Steps.refl _) (argsL := []) (rest := []) (lenOf pd_3 rfl) rfl (by show 2 * 0 + _ ≤ _; exact Nat.le_of_eq rfl) (hb hby at_371) (fun _ _ => ⟨rfl, rfl, (by decide : (((((0 + 1) + 1) + 1) + 2) + 1) + 1 ≤ _), (by decide : (((((0 + 5) + 2) + 2) + 6) + 15) + 15 ≤ _)⟩)
        dsimp only [Pt.U, Pt.locs, Pt.cells, Pt.slots] at X191 l191 y191 z191 st191 hQ191
        subst l191 y191 z191
        obtain ⟨c2, rfl, sc2, Gc2_, Kc191, Nq191⟩ := hQ191
        have N191 := Fr.app N188 Nq191
        have r192 : Steps p.tables e below S0 (T191.setTop (mkF m 374 #[.val (.int q1), .val (.int q2), .val (.int q3), .val (.int q4), .val (.int q5), .val (.int k), .val (.int av), .val (.int p0), .val (.int p1), .val (.int p2), .val (.int xt), .val (.int lst), .val (.int dm), .val (.double v0), .second, .val (.double v1), .second, .val (.double v2), .second, .val (.double jk), .second, .val (.ref po), .val (.ref c1), .unset] [(.ref c2)])) := r190.trans st191
        have G191_b1 := G188_b1.keep Kc191 nin0
        have G191_b2 := G188_b2.keep Kc191 nin0
        have G191_c1 := G1_.keep Kc191 nin0
        have E191_sv_ := E188_sv_.keep Kc191
        have E191_po := hSVc1.1.keep Kc191
        have Z191 : n0 ≤ T191.heap.size := Nat.le_trans Z188 Kc191.1
        have hSVc2 := own_svkeep hSVc1 Kc191
        have r193 : Steps p.tables e below S0 (T191.setTop (mkF m 376 #[.val (.int q1), .val (.int q2), .val (.int q3), .val (.int q4), .val (.int q5), .val (.int k), .val (.int av), .val (.int p0), .val (.int p1), .val (.int p2), .val (.int xt), .val (.int lst), .val (.int dm), .val (.double v0), .second, .val (.double v1), .second, .val (.double v2), .second, .val (.double jk), .second, .val (.ref po), .val (.ref c1), .val (.ref c2)] [])) := by
          refine r192.trans ?_
          show Steps p.tables e below (T191.setTop (mkF m 374 #[.val (.int q1), .val (.int q2), .val (.int q3), .val (.int q4), .val (.int q5), .val (.int k), .val (.int av), .val (.int p0), .val (.int p1), .val (.int p2), .val (.int xt), .val (.int lst), .val (.int dm), .val (.double v0), .second, .val (.double v1), .second, .val (.double v2), .second, .val (.double jk), .second, .val (.ref po), .val (.ref c1), .unset] [(.ref c2)])) _
          refine XS.astore X191.here hx rfl (hb hby at_374) rfl rfl (l' := #[.val (.int q1), .val (.int q2), .val (.int q3), .val (.int q4), .val (.int q5), .val (.int k), .val (.int av), .val (.int p0), .val (.int p1), .val (.int p2), .val (.int xt), .val (.int lst), .val (.int dm), .val (.double v0), .second, .val (.double v1), .second, .val (.double v2), .second, .val (.double jk), .second, .val (.ref po), .val (.ref c1), .val (.ref c2)]) rfl ?_
          exact Steps.refl _
        have hne_ : c1 ≠ c2 := Nat.ne_of_lt (Nat.lt_of_lt_of_le G1_.lt sc2)
        exact ⟨_, _, _, po, c1, c2, X191.more (by decide) (by decide), rfl, N191, Z191, hne_, G191_c1, r193⟩
      · skip
        have hl : lst.toInt = p2.toInt + 1 := by rcases hlst with ⟨y, h_⟩ | ⟨y, h_⟩ | ⟨y, h_⟩ | ⟨y, h_⟩ <;> first | exact h_ | exact absurd (z.symm.trans y) (by decide)
        have r194 : Steps p.tables e below S0 (s₁.setTop (mkF m 315 #[.val (.int q1), .val (.int q2), .val (.int q3), .val (.int q4), .val (.int q5), .val (.int k), .val (.int av), .val (.int p0), .val (.int p1), .val (.int p2), .val (.int xt), .val (.int lst), .val (.int dm), .val (.double v0), .second, .val (.double v1), .second, .val (.double v2), .second, .val (.double jk), .second, .unset, .unset, .unset] [])) := by
          refine r121.trans ?_
          show Steps p.tables e below (s₁.setTop (mkF m 128 #[.val (.int q1), .val (.int q2), .val (.int q3), .val (.int q4), .val (.int q5), .val (.int k), .val (.int av), .val (.int p0), .val (.int p1), .val (.int p2), .val (.int xt), .val (.int lst), .val (.int dm), .val (.double v0), .second, .val (.double v1), .second, .val (.double v2), .second, .val (.double jk), .second, .unset, .unset, .unset] [(.int av)])) _
          refine XS.ifYes X0.here hx rfl (pc0 := 128) (pc' := 208) rfl (hb hby at_128) rfl ((if0 _ _).trans (teq hav).1) (by decide) (by decide) ?_
          show Steps p.tables e below (s₁.setTop (mkF m 208 #[.val (.int q1), .val (.int q2), .val (.int q3), .val (.int q4), .val (.int q5), .val (.int k), .val (.int av), .val (.int p0), .val (.int p1), .val (.int p2), .val (.int xt), .val (.int lst), .val (.int dm), .val (.double v0), .second, .val (.double v1), .second, .val (.double v2), .second, .val (.double jk), .second, .unset, .unset, .unset] [])) _
          refine XS.iload X0.here hx rfl (hb hby at_208) rfl ?_
          show Steps p.tables e below (s₁.setTop (mkF m 210 #[.val (.int q1), .val (.int q2), .val (.int q3), .val (.int q4), .val (.int q5), .val (.int k), .val (.int av), .val (.int p0), .val (.int p1), .val (.int p2), .val (.int xt), .val (.int lst), .val (.int dm), .val (.double v0), .second, .val (.double v1), .second, .val (.double v2), .second, .val (.double jk), .second, .unset, .unset, .unset] [(.int k)])) _
          refine XS.ifYes X0.here hx rfl (pc0 := 210) (pc' := 233) rfl (hb hby at_210) rfl ((if0 _ _).trans (feq (by rw [z] <;> decide)).2) (by decide) (by decide) ?_
          show Steps p.tables e below (s₁.setTop (mkF m 233 #[.val (.int q1), .val (.int q2), .val (.int q3), .val (.int q4), .val (.int q5), .val (.int k), .val (.int av), .val (.int p0), .val (.int p1), .val (.int p2), .val (.int xt), .val (.int lst), .val (.int dm), .val (.double v0), .second, .val (.double v1), .second, .val (.double v2), .second, .val (.double jk), .second, .unset, .unset, .unset] [])) _
          refine XS.iload X0.here hx rfl (hb hby at_233) rfl ?_
          show Steps p.tables e below (s₁.setTop (mkF m 235 #[.val (.int q1), .val (.int q2), .val (.int q3), .val (.int q4), .val (.int q5), .val (.int k), .val (.int av), .val (.int p0), .val (.int p1), .val (.int p2), .val (.int xt), .val (.int lst), .val (.int dm), .val (.double v0), .second, .val (.double v1), .second, .val (.double v2), .second, .val (.double jk), .second, .unset, .unset, .unset] [(.int k)])) _
          refine XS.iconst X0.here hx rfl (hb hby at_235) ?_
          show Steps p.tables e below (s₁.setTop (mkF m 236 #[.val (.int q1), .val (.int q2), .val (.int q3), .val (.int q4), .val (.int q5), .val (.int k), .val (.int av), .val (.int p0), .val (.int p1), .val (.int p2), .val (.int xt), .val (.int lst), .val (.int dm), .val (.double v0), .second, .val (.double v1), .second, .val (.double v2), .second, .val (.double jk), .second, .unset, .unset, .unset] [(.int (1 : Int32)), (.int k)])) _
          refine XS.icmpYes X0.here hx rfl (pc0 := 236) (pc' := 269) rfl (hb hby at_236) rfl (feq (by rw [z] <;> decide)).2 (by decide) (by decide) ?_
          show Steps p.tables e below (s₁.setTop (mkF m 269 #[.val (.int q1), .val (.int q2), .val (.int q3), .val (.int q4), .val (.int q5), .val (.int k), .val (.int av), .val (.int p0), .val (.int p1), .val (.int p2), .val (.int xt), .val (.int lst), .val (.int dm), .val (.double v0), .second, .val (.double v1), .second, .val (.double v2), .second, .val (.double jk), .second, .unset, .unset, .unset] [])) _
          refine XS.iload X0.here hx rfl (hb hby at_269) rfl ?_
          show Steps p.tables e below (s₁.setTop (mkF m 271 #[.val (.int q1), .val (.int q2), .val (.int q3), .val (.int q4), .val (.int q5), .val (.int k), .val (.int av), .val (.int p0), .val (.int p1), .val (.int p2), .val (.int xt), .val (.int lst), .val (.int dm), .val (.double v0), .second, .val (.double v1), .second, .val (.double v2), .second, .val (.double jk), .second, .unset, .unset, .unset] [(.int k)])) _
          refine XS.iconst X0.here hx rfl (hb hby at_271) ?_
          show Steps p.tables e below (s₁.setTop (mkF m 272 #[.val (.int q1), .val (.int q2), .val (.int q3), .val (.int q4), .val (.int q5), .val (.int k), .val (.int av), .val (.int p0), .val (.int p1), .val (.int p2), .val (.int xt), .val (.int lst), .val (.int dm), .val (.double v0), .second, .val (.double v1), .second, .val (.double v2), .second, .val (.double jk), .second, .unset, .unset, .unset] [(.int (2 : Int32)), (.int k)])) _
          refine XS.icmpYes X0.here hx rfl (pc0 := 272) (pc' := 315) rfl (hb hby at_272) rfl (feq (by rw [z] <;> decide)).2 (by decide) (by decide) ?_
          exact Steps.refl _
        obtain ⟨T195, h195, X195, e195, E195, A195, D195, -, st195⟩ := newO X0 hx hZ hown (hw _ (List.mem_of_getElem? (i := 0) rfl)) (hw _ (List.mem_of_getElem? (i := 1) rfl)) (hw _ (List.mem_of_getElem? (i := 2) rfl)) e0 (g := (mkF m 315 #[.val (.int q1), .val (.int q2), .val (.int q3), .val (.int q4), .val (.int q5), .val (.int k), .val (.int av), .val (.int p0), .val (.int p1), .val (.int p2), .val (.int xt), .val (.int lst), .val (.int dm), .val (.double v0), .second, .val (.double v1), .second, .val (.double v2), .second, .val (.double jk), .second, .unset, .unset, .unset] [])) rfl (hb hby at_315) (by decide) (by decide)
        obtain ⟨po, g195⟩ : ∃ z, z = h0.size := ⟨_, rfl⟩
        rw [← g195] at A195 D195 st195
        have g_po : n0 ≤ po := Nat.le_trans Z0 (Nat.le_of_eq g195.symm)
        have Z195 : n0 ≤ h195.size := Nat.le_trans Z0 E195.1
        have F_po_dimension : Fld Z h195 po "com/example/polytome/polytome/model/SparseVector" "dimension" "I" (.int (0 : Int32)) := D195 (Or.inr (hw _ (List.mem_of_getElem? (i := 30) rfl))) (ty := .int) (by decide)
        have F_po_positions : Fld Z h195 po "com/example/polytome/polytome/model/SparseVector" "positions" "[I" .null := D195 (Or.inr (hw _ (List.mem_of_getElem? (i := 32) rfl))) (ty := (.array .int)) (by decide)
        have F_po_values : Fld Z h195 po "com/example/polytome/polytome/model/SparseVector" "values" "[D" .null := D195 (Or.inr (hw _ (List.mem_of_getElem? (i := 34) rfl))) (ty := (.array .double)) (by decide)
        have F_po_from : Fld Z h195 po "com/example/polytome/polytome/model/SparseVector" "from" "I" (.int (0 : Int32)) := D195 (Or.inr (hw _ (List.mem_of_getElem? (i := 36) rfl))) (ty := .int) (by decide)
        have F_po_to : Fld Z h195 po "com/example/polytome/polytome/model/SparseVector" "to" "I" (.int (0 : Int32)) := D195 (Or.inr (hw _ (List.mem_of_getElem? (i := 38) rfl))) (ty := .int) (by decide)
        have r196 : Steps p.tables e below S0 (T195.setTop (mkF m 318 #[.val (.int q1), .val (.int q2), .val (.int q3), .val (.int q4), .val (.int q5), .val (.int k), .val (.int av), .val (.int p0), .val (.int p1), .val (.int p2), .val (.int xt), .val (.int lst), .val (.int dm), .val (.double v0), .second, .val (.double v1), .second, .val (.double v2), .second, .val (.double jk), .second, .unset, .unset, .unset] [(.ref po)])) := r194.trans (st195 _ (Steps.refl _))
        have r197 : Steps p.tables e below S0 (T195.setTop (mkF m 322 #[.val (.int q1), .val (.int q2), .val (.int q3), .val (.int q4), .val (.int q5), .val (.int k), .val (.int av), .val (.int p0), .val (.int p1), .val (.int p2), .val (.int xt), .val (.int lst), .val (.int dm), .val (.double v0), .second, .val (.double v1), .second, .val (.double v2), .second, .val (.double jk), .second, .unset, .unset, .unset] [(.int (3 : Int32)), (.int dm), (.ref po), (.ref po)])) := by
          refine r196.trans ?_
          show Steps p.tables e below (T195.setTop (mkF m 318 #[.val (.int q1), .val (.int q2), .val (.int q3), .val (.int q4), .val (.int q5), .val (.int k), .val (.int av), .val (.int p0), .val (.int p1), .val (.int p2), .val (.int xt), .val (.int lst), .val (.int dm), .val (.double v0), .second, .val (.double v1), .second, .val (.double v2), .second, .val (.double jk), .second, .unset, .unset, .unset] [(.ref po)])) _
          refine XS.dup X195.here hx rfl (hb hby at_318) rfl rfl ?_
          show Steps p.tables e below (T195.setTop (mkF m 319 #[.val (.int q1), .val (.int q2), .val (.int q3), .val (.int q4), .val (.int q5), .val (.int k), .val (.int av), .val (.int p0), .val (.int p1), .val (.int p2), .val (.int xt), .val (.int lst), .val (.int dm), .val (.double v0), .second, .val (.double v1), .second, .val (.double v2), .second, .val (.double jk), .second, .unset, .unset, .unset] [(.ref po), (.ref po)])) _
          refine XS.iload X195.here hx rfl (hb hby at_319) rfl ?_
          show Steps p.tables e below (T195.setTop (mkF m 321 #[.val (.int q1), .val (.int q2), .val (.int q3), .val (.int q4), .val (.int q5), .val (.int k), .val (.int av), .val (.int p0), .val (.int p1), .val (.int p2), .val (.int xt), .val (.int lst), .val (.int dm), .val (.double v0), .second, .val (.double v1), .second, .val (.double v2), .second, .val (.double jk), .second, .unset, .unset, .unset] [(.int dm), (.ref po), (.ref po)])) _
          refine XS.iconst X195.here hx rfl (hb hby at_321) ?_
          exact Steps.refl _
        obtain ⟨T198, h198, k198, X198, e198, E198, A198, B198, st198⟩ := newPE X195 hx hZ (hw _ (List.mem_of_getElem? (i := 3) rfl)) e195 (g := (mkF m 322 #[.val (.int q1), .val (.int q2), .val (.int q3), .val (.int q4), .val (.int q5), .val (.int k), .val (.int av), .val (.int p0), .val (.int p1), .val (.int p2), .val (.int xt), .val (.int lst), .val (.int dm), .val (.double v0), .second, .val (.double v1), .second, .val (.double v2), .second, .val (.double jk), .second, .unset, .unset, .unset] [(.int (3 : Int32)), (.int dm), (.ref po), (.ref po)])) rfl (hb hby at_322) rfl (by decide) (cap := 3) (by decide) (by decide) (by decide) (by decide) (ad := "[I") (by decide)
        obtain ⟨ps, g198⟩ : ∃ z, z = h195.size := ⟨_, rfl⟩
        rw [← g198] at A198 B198 st198
        have ne_po_ps : po ≠ ps := Nat.ne_of_lt (by rw [g198]; exact A195.lt)
        have G_ps : Gar Z h198 ps .int ((3 : Int32)).toNatClampNeg (fun _ => defaultValue .int) := Gar.new A198
        have g_ps : n0 ≤ ps := Nat.le_trans Z195 (Nat.le_of_eq g198.symm)
        have F198_po_dimension := F_po_dimension.ext E198
        have F198_po_positions := F_po_positions.ext E198
        have F198_po_values := F_po_values.ext E198
        have F198_po_from := F_po_from.ext E198
        have F198_po_to := F_po_to.ext E198
        have E198_po := A195.ext E198
        have Z198 : n0 ≤ h198.size := Nat.le_trans Z195 E198.1
        have r199 : Steps p.tables e below S0 (T198.setTop (mkF m 324 #[.val (.int q1), .val (.int q2), .val (.int q3), .val (.int q4), .val (.int q5), .val (.int k), .val (.int av), .val (.int p0), .val (.int p1), .val (.int p2), .val (.int xt), .val (.int lst), .val (.int dm), .val (.double v0), .second, .val (.double v1), .second, .val (.double v2), .second, .val (.double jk), .second, .unset, .unset, .unset] [(.ref ps), (.int dm), (.ref po), (.ref po)])) := r197.trans (st198 _ (Steps.refl _))
        have r200 : Steps p.tables e below S0 (T198.setTop (mkF m 328 #[.val (.int q1), .val (.int q2), .val (.int q3), .val (.int q4), .val (.int q5), .val (.int k), .val (.int av), .val (.int p0), .val (.int p1), .val (.int p2), .val (.int xt), .val (.int lst), .val (.int dm), .val (.double v0), .second, .val (.double v1), .second, .val (.double v2), .second, .val (.double jk), .second, .unset, .unset, .unset] [(.int p0), (.int (0 : Int32)), (.ref ps), (.ref ps), (.int dm), (.ref po), (.ref po)])) := by
          refine r199.trans ?_
          show Steps p.tables e below (T198.setTop (mkF m 324 #[.val (.int q1), .val (.int q2), .val (.int q3), .val (.int q4), .val (.int q5), .val (.int k), .val (.int av), .val (.int p0), .val (.int p1), .val (.int p2), .val (.int xt), .val (.int lst), .val (.int dm), .val (.double v0), .second, .val (.double v1), .second, .val (.double v2), .second, .val (.double jk), .second, .unset, .unset, .unset] [(.ref ps), (.int dm), (.ref po), (.ref po)])) _
          refine XS.dup X198.here hx rfl (hb hby at_324) rfl rfl ?_
          show Steps p.tables e below (T198.setTop (mkF m 325 #[.val (.int q1), .val (.int q2), .val (.int q3), .val (.int q4), .val (.int q5), .val (.int k), .val (.int av), .val (.int p0), .val (.int p1), .val (.int p2), .val (.int xt), .val (.int lst), .val (.int dm), .val (.double v0), .second, .val (.double v1), .second, .val (.double v2), .second, .val (.double jk), .second, .unset, .unset, .unset] [(.ref ps), (.ref ps), (.int dm), (.ref po), (.ref po)])) _
          refine XS.iconst X198.here hx rfl (hb hby at_325) ?_
          show Steps p.tables e below (T198.setTop (mkF m 326 #[.val (.int q1), .val (.int q2), .val (.int q3), .val (.int q4), .val (.int q5), .val (.int k), .val (.int av), .val (.int p0), .val (.int p1), .val (.int p2), .val (.int xt), .val (.int lst), .val (.int dm), .val (.double v0), .second, .val (.double v1), .second, .val (.double v2), .second, .val (.double jk), .second, .unset, .unset, .unset] [(.int (0 : Int32)), (.ref ps), (.ref ps), (.int dm), (.ref po), (.ref po)])) _
          refine XS.iload X198.here hx rfl (hb hby at_326) rfl ?_
          exact Steps.refl _
        obtain ⟨T201, h201, X201, e201, W201, st201⟩ := stIG X198 hx hZ e198 G_ps (j := (0 : Int32)) (by decide) (by decide) (g := (mkF m 328 #[.val (.int q1), .val (.int q2), .val (.int q3), .val (.int q4), .val (.int q5), .val (.int k), .val (.int av), .val (.int p0), .val (.int p1), .val (.int p2), .val (.int xt), .val (.int lst), .val (.int dm), .val (.double v0), .second, .val (.double v1), .second, .val (.double v2), .second, .val (.double jk), .second, .unset, .unset, .unset] [(.int p0), (.int (0 : Int32)), (.ref ps), (.ref ps), (.int dm), (.ref po), (.ref po)])) rfl rfl (hb hby at_328)
        have N201 := Fr.snoc X201 N0 g_ps
        have G201_ps := G_ps.set W201
        have F201_po_dimension := F198_po_dimension.other W201 (Or.inl ne_po_ps)
        have F201_po_positions := F198_po_positions.other W201 (Or.inl ne_po_ps)
        have F201_po_values := F198_po_values.other W201 (Or.inl ne_po_ps)
        have F201_po_from := F198_po_from.other W201 (Or.inl ne_po_ps)
        have F201_po_to := F198_po_to.other W201 (Or.inl ne_po_ps)
        have E201_po := E198_po.wr W201
        have E201_ps := B198.wr W201
        have Z201 : n0 ≤ h201.size := Nat.le_trans Z198 (Nat.le_of_eq W201.size.symm)
        have r202 : Steps p.tables e below S0 (T201.setTop (mkF m 329 #[.val (.int q1), .val (.int q2), .val (.int q3), .val (.int q4), .val (.int q5), .val (.int k), .val (.int av), .val (.int p0), .val (.int p1), .val (.int p2), .val (.int xt), .val (.int lst), .val (.int dm), .val (.double v0), .second, .val (.double v1), .second, .val (.double v2), .second, .val (.double jk), .second, .unset, .unset, .unset] [(.ref ps), (.int dm), (.ref po), (.ref po)])) := r200.trans (st201 _ (Steps.refl _))
        have r203 : Steps p.tables e below S0 (T201.setTop (mkF m 333 #[.val (.int q1), .val (.int q2), .val (.int q3), .val (.int q4), .val (.int q5), .val (.int k), .val (.int av), .val (.int p0), .val (.int p1), .val (.int p2), .val (.int xt), .val (.int lst), .val (.int dm), .val (.double v0), .second, .val (.double v1), .second, .val (.double v2), .second, .val (.double jk), .second, .unset, .unset, .unset] [(.int p1), (.int (1 : Int32)), (.ref ps), (.ref ps), (.int dm), (.ref po), (.ref po)])) := by
          refine r202.trans ?_
          show Steps p.tables e below (T201.setTop (mkF m 329 #[.val (.int q1), .val (.int q2), .val (.int q3), .val (.int q4), .val (.int q5), .val (.int k), .val (.int av), .val (.int p0), .val (.int p1), .val (.int p2), .val (.int xt), .val (.int lst), .val (.int dm), .val (.double v0), .second, .val (.double v1), .second, .val (.double v2), .second, .val (.double jk), .second, .unset, .unset, .unset] [(.ref ps), (.int dm), (.ref po), (.ref po)])) _
          refine XS.dup X201.here hx rfl (hb hby at_329) rfl rfl ?_
          show Steps p.tables e below (T201.setTop (mkF m 330 #[.val (.int q1), .val (.int q2), .val (.int q3), .val (.int q4), .val (.int q5), .val (.int k), .val (.int av), .val (.int p0), .val (.int p1), .val (.int p2), .val (.int xt), .val (.int lst), .val (.int dm), .val (.double v0), .second, .val (.double v1), .second, .val (.double v2), .second, .val (.double jk), .second, .unset, .unset, .unset] [(.ref ps), (.ref ps), (.int dm), (.ref po), (.ref po)])) _
          refine XS.iconst X201.here hx rfl (hb hby at_330) ?_
          show Steps p.tables e below (T201.setTop (mkF m 331 #[.val (.int q1), .val (.int q2), .val (.int q3), .val (.int q4), .val (.int q5), .val (.int k), .val (.int av), .val (.int p0), .val (.int p1), .val (.int p2), .val (.int xt), .val (.int lst), .val (.int dm), .val (.double v0), .second, .val (.double v1), .second, .val (.double v2), .second, .val (.double jk), .second, .unset, .unset, .unset] [(.int (1 : Int32)), (.ref ps), (.ref ps), (.int dm), (.ref po), (.ref po)])) _
          refine XS.iload X201.here hx rfl (hb hby at_331) rfl ?_
          exact Steps.refl _
        obtain ⟨T204, h204, X204, e204, W204, st204⟩ := stIG X201 hx hZ e201 G201_ps (j := (1 : Int32)) (by decide) (by decide) (g := (mkF m 333 #[.val (.int q1), .val (.int q2), .val (.int q3), .val (.int q4), .val (.int q5), .val (.int k), .val (.int av), .val (.int p0), .val (.int p1), .val (.int p2), .val (.int xt), .val (.int lst), .val (.int dm), .val (.double v0), .second, .val (.double v1), .second, .val (.double v2), .second, .val (.double jk), .second, .unset, .unset, .unset] [(.int p1), (.int (1 : Int32)), (.ref ps), (.ref ps), (.int dm), (.ref po), (.ref po)])) rfl rfl (hb hby at_333)
        have N204 := Fr.snoc X204 N201 g_ps
        have G204_ps := G201_ps.set W204
        have F204_po_dimension := F201_po_dimension.other W204 (Or.inl ne_po_ps)
        have F204_po_positions := F201_po_positions.other W204 (Or.inl ne_po_ps)
        have F204_po_values := F201_po_values.other W204 (Or.inl ne_po_ps)
        have F204_po_from := F201_po_from.other W204 (Or.inl ne_po_ps)
        have F204_po_to := F201_po_to.other W204 (Or.inl ne_po_ps)
        have E204_po := E201_po.wr W204
        have E204_ps := E201_ps.wr W204
        have Z204 : n0 ≤ h204.size := Nat.le_trans Z201 (Nat.le_of_eq W204.size.symm)
        have r205 : Steps p.tables e below S0 (T204.setTop (mkF m 334 #[.val (.int q1), .val (.int q2), .val (.int q3), .val (.int q4), .val (.int q5), .val (.int k), .val (.int av), .val (.int p0), .val (.int p1), .val (.int p2), .val (.int xt), .val (.int lst), .val (.int dm), .val (.double v0), .second, .val (.double v1), .second, .val (.double v2), .second, .val (.double jk), .second, .unset, .unset, .unset] [(.ref ps), (.int dm), (.ref po), (.ref po)])) := r203.trans (st204 _ (Steps.refl _))
        have r206 : Steps p.tables e below S0 (T204.setTop (mkF m 338 #[.val (.int q1), .val (.int q2), .val (.int q3), .val (.int q4), .val (.int q5), .val (.int k), .val (.int av), .val (.int p0), .val (.int p1), .val (.int p2), .val (.int xt), .val (.int lst), .val (.int dm), .val (.double v0), .second, .val (.double v1), .second, .val (.double v2), .second, .val (.double jk), .second, .unset, .unset, .unset] [(.int p2), (.int (2 : Int32)), (.ref ps), (.ref ps), (.int dm), (.ref po), (.ref po)])) := by
          refine r205.trans ?_
          show Steps p.tables e below (T204.setTop (mkF m 334 #[.val (.int q1), .val (.int q2), .val (.int q3), .val (.int q4), .val (.int q5), .val (.int k), .val (.int av), .val (.int p0), .val (.int p1), .val (.int p2), .val (.int xt), .val (.int lst), .val (.int dm), .val (.double v0), .second, .val (.double v1), .second, .val (.double v2), .second, .val (.double jk), .second, .unset, .unset, .unset] [(.ref ps), (.int dm), (.ref po), (.ref po)])) _
          refine XS.dup X204.here hx rfl (hb hby at_334) rfl rfl ?_
          show Steps p.tables e below (T204.setTop (mkF m 335 #[.val (.int q1), .val (.int q2), .val (.int q3), .val (.int q4), .val (.int q5), .val (.int k), .val (.int av), .val (.int p0), .val (.int p1), .val (.int p2), .val (.int xt), .val (.int lst), .val (.int dm), .val (.double v0), .second, .val (.double v1), .second, .val (.double v2), .second, .val (.double jk), .second, .unset, .unset, .unset] [(.ref ps), (.ref ps), (.int dm), (.ref po), (.ref po)])) _
          refine XS.iconst X204.here hx rfl (hb hby at_335) ?_
          show Steps p.tables e below (T204.setTop (mkF m 336 #[.val (.int q1), .val (.int q2), .val (.int q3), .val (.int q4), .val (.int q5), .val (.int k), .val (.int av), .val (.int p0), .val (.int p1), .val (.int p2), .val (.int xt), .val (.int lst), .val (.int dm), .val (.double v0), .second, .val (.double v1), .second, .val (.double v2), .second, .val (.double jk), .second, .unset, .unset, .unset] [(.int (2 : Int32)), (.ref ps), (.ref ps), (.int dm), (.ref po), (.ref po)])) _
          refine XS.iload X204.here hx rfl (hb hby at_336) rfl ?_
          exact Steps.refl _
        obtain ⟨T207, h207, X207, e207, W207, st207⟩ := stIG X204 hx hZ e204 G204_ps (j := (2 : Int32)) (by decide) (by decide) (g := (mkF m 338 #[.val (.int q1), .val (.int q2), .val (.int q3), .val (.int q4), .val (.int q5), .val (.int k), .val (.int av), .val (.int p0), .val (.int p1), .val (.int p2), .val (.int xt), .val (.int lst), .val (.int dm), .val (.double v0), .second, .val (.double v1), .second, .val (.double v2), .second, .val (.double jk), .second, .unset, .unset, .unset] [(.int p2), (.int (2 : Int32)), (.ref ps), (.ref ps), (.int dm), (.ref po), (.ref po)])) rfl rfl (hb hby at_338)
        have N207 := Fr.snoc X207 N204 g_ps
        have G207_ps := G204_ps.set W207
        have F207_po_dimension := F204_po_dimension.other W207 (Or.inl ne_po_ps)
        have F207_po_positions := F204_po_positions.other W207 (Or.inl ne_po_ps)
        have F207_po_values := F204_po_values.other W207 (Or.inl ne_po_ps)
        have F207_po_from := F204_po_from.other W207 (Or.inl ne_po_ps)
        have F207_po_to := F204_po_to.other W207 (Or.inl ne_po_ps)
        have E207_po := E204_po.wr W207
        have E207_ps := E204_ps.wr W207
        have Z207 : n0 ≤ h207.size := Nat.le_trans Z204 (Nat.le_of_eq W207.size.symm)
        have r208 : Steps p.tables e below S0 (T207.setTop (mkF m 339 #[.val (.int q1), .val (.int q2), .val (.int q3), .val (.int q4), .val (.int q5), .val (.int k), .val (.int av), .val (.int p0), .val (.int p1), .val (.int p2), .val (.int xt), .val (.int lst), .val (.int dm), .val (.double v0), .second, .val (.double v1), .second, .val (.double v2), .second, .val (.double jk), .second, .unset, .unset, .unset] [(.ref ps), (.int dm), (.ref po), (.ref po)])) := r206.trans (st207 _ (Steps.refl _))
        have r209 : Steps p.tables e below S0 (T207.setTop (mkF m 340 #[.val (.int q1), .val (.int q2), .val (.int q3), .val (.int q4), .val (.int q5), .val (.int k), .val (.int av), .val (.int p0), .val (.int p1), .val (.int p2), .val (.int xt), .val (.int lst), .val (.int dm), .val (.double v0), .second, .val (.double v1), .second, .val (.double v2), .second, .val (.double jk), .second, .unset, .unset, .unset] [(.int (3 : Int32)), (.ref ps), (.int dm), (.ref po), (.ref po)])) := by
          refine r208.trans ?_
          show Steps p.tables e below (T207.setTop (mkF m 339 #[.val (.int q1), .val (.int q2), .val (.int q3), .val (.int q4), .val (.int q5), .val (.int k), .val (.int av), .val (.int p0), .val (.int p1), .val (.int p2), .val (.int xt), .val (.int lst), .val (.int dm), .val (.double v0), .second, .val (.double v1), .second, .val (.double v2), .second, .val (.double jk), .second, .unset, .unset, .unset] [(.ref ps), (.int dm), (.ref po), (.ref po)])) _
          refine XS.iconst X207.here hx rfl (hb hby at_339) ?_
          exact Steps.refl _
        obtain ⟨T210, h210, k210, X210, e210, E210, A210, B210, st210⟩ := newPE X207 hx hZ (hw _ (List.mem_of_getElem? (i := 4) rfl)) e207 (g := (mkF m 340 #[.val (.int q1), .val (.int q2), .val (.int q3), .val (.int q4), .val (.int q5), .val (.int k), .val (.int av), .val (.int p0), .val (.int p1), .val (.int p2), .val (.int xt), .val (.int lst), .val (.int dm), .val (.double v0), .second, .val (.double v1), .second, .val (.double v2), .second, .val (.double jk), .second, .unset, .unset, .unset] [(.int (3 : Int32)), (.ref ps), (.int dm), (.ref po), (.ref po)])) rfl (hb hby at_340) rfl (by decide) (cap := 3) (by decide) (by decide) (by decide) (by decide) (ad := "[D") (by decide)
        obtain ⟨vs, g210⟩ : ∃ z, z = h207.size := ⟨_, rfl⟩
        rw [← g210] at A210 B210 st210
        have ne_ps_vs : ps ≠ vs := Nat.ne_of_lt (by rw [g210]; exact G207_ps.lt)
        have ne_po_vs : po ≠ vs := Nat.ne_of_lt (by rw [g210]; exact E207_po.lt)
        have G_vs : Gar Z h210 vs .double ((3 : Int32)).toNatClampNeg (fun _ => defaultValue .double) := Gar.new A210
        have g_vs : n0 ≤ vs := Nat.le_trans Z207 (Nat.le_of_eq g210.symm)
        have G210_ps := G207_ps.ext E210
        have F210_po_dimension := F207_po_dimension.ext E210
        have F210_po_positions := F207_po_positions.ext E210
        have F210_po_values := F207_po_values.ext E210
        have F210_po_from := F207_po_from.ext E210
        have F210_po_to := F207_po_to.ext E210
        have E210_po := E207_po.ext E210
        have E210_ps := E207_ps.ext E210
        have Z210 : n0 ≤ h210.size := Nat.le_trans Z207 E210.1
        have r211 : Steps p.tables e below S0 (T210.setTop (mkF m 342 #[.val (.int q1), .val (.int q2), .val (.int q3), .val (.int q4), .val (.int q5), .val (.int k), .val (.int av), .val (.int p0), .val (.int p1), .val (.int p2), .val (.int xt), .val (.int lst), .val (.int dm), .val (.double v0), .second, .val (.double v1), .second, .val (.double v2), .second, .val (.double jk), .second, .unset, .unset, .unset] [(.ref vs), (.ref ps), (.int dm), (.ref po), (.ref po)])) := r209.trans (st210 _ (Steps.refl _))
        have r212 : Steps p.tables e below S0 (T210.setTop (mkF m 346 #[.val (.int q1), .val (.int q2), .val (.int q3), .val (.int q4), .val (.int q5), .val (.int k), .val (.int av), .val (.int p0), .val (.int p1), .val (.int p2), .val (.int xt), .val (.int lst), .val (.int dm), .val (.double v0), .second, .val (.double v1), .second, .val (.double v2), .second, .val (.double jk), .second, .unset, .unset, .unset] [(.double v0), (.int (0 : Int32)), (.ref vs), (.ref vs), (.ref ps), (.int dm), (.ref po), (.ref po)])) := by
          refine r211.trans ?_
          show Steps p.tables e below (T210.setTop (mkF m 342 #[.val (.int q1), .val (.int q2), .val (.int q3), .val (.int q4), .val (.int q5), .val (.int k), .val (.int av), .val (.int p0), .val (.int p1), .val (.int p2), .val (.int xt), .val (.int lst), .val (.int dm), .val (.double v0), .second, .val (.double v1), .second, .val (.double v2), .second, .val (.double jk), .second, .unset, .unset, .unset] [(.ref vs), (.ref ps), (.int dm), (.ref po), (.ref po)])) _
          refine XS.dup X210.here hx rfl (hb hby at_342) rfl rfl ?_
          show Steps p.tables e below (T210.setTop (mkF m 343 #[.val (.int q1), .val (.int q2), .val (.int q3), .val (.int q4), .val (.int q5), .val (.int k), .val (.int av), .val (.int p0), .val (.int p1), .val (.int p2), .val (.int xt), .val (.int lst), .val (.int dm), .val (.double v0), .second, .val (.double v1), .second, .val (.double v2), .second, .val (.double jk), .second, .unset, .unset, .unset] [(.ref vs), (.ref vs), (.ref ps), (.int dm), (.ref po), (.ref po)])) _
          refine XS.iconst X210.here hx rfl (hb hby at_343) ?_
          show Steps p.tables e below (T210.setTop (mkF m 344 #[.val (.int q1), .val (.int q2), .val (.int q3), .val (.int q4), .val (.int q5), .val (.int k), .val (.int av), .val (.int p0), .val (.int p1), .val (.int p2), .val (.int xt), .val (.int lst), .val (.int dm), .val (.double v0), .second, .val (.double v1), .second, .val (.double v2), .second, .val (.double jk), .second, .unset, .unset, .unset] [(.int (0 : Int32)), (.ref vs), (.ref vs), (.ref ps), (.int dm), (.ref po), (.ref po)])) _
          refine XS.dload X210.here hx rfl (hb hby at_344) rfl ?_
          exact Steps.refl _
        obtain ⟨T213, h213, X213, e213, W213, st213⟩ := stDG X210 hx hZ e210 G_vs (j := (0 : Int32)) (by decide) (by decide) (g := (mkF m 346 #[.val (.int q1), .val (.int q2), .val (.int q3), .val (.int q4), .val (.int q5), .val (.int k), .val (.int av), .val (.int p0), .val (.int p1), .val (.int p2), .val (.int xt), .val (.int lst), .val (.int dm), .val (.double v0), .second, .val (.double v1), .second, .val (.double v2), .second, .val (.double jk), .second, .unset, .unset, .unset] [(.double v0), (.int (0 : Int32)), (.ref vs), (.ref vs), (.ref ps), (.int dm), (.ref po), (.ref po)])) rfl rfl (hb hby at_346)
        have N213 := Fr.snoc X213 N207 g_vs
        have G213_ps := G210_ps.other W213 ne_ps_vs
        have G213_vs := G_vs.set W213
        have F213_po_dimension := F210_po_dimension.other W213 (Or.inl ne_po_vs)
        have F213_po_positions := F210_po_positions.other W213 (Or.inl ne_po_vs)
        have F213_po_values := F210_po_values.other W213 (Or.inl ne_po_vs)
        have F213_po_from := F210_po_from.other W213 (Or.inl ne_po_vs)
        have F213_po_to := F210_po_to.other W213 (Or.inl ne_po_vs)
        have E213_po := E210_po.wr W213
        have E213_ps := E210_ps.wr W213
        have E213_vs := B210.wr W213
        have Z213 : n0 ≤ h213.size := Nat.le_trans Z210 (Nat.le_of_eq W213.size.symm)
        have r214 : Steps p.tables e below S0 (T213.setTop (mkF m 347 #[.val (.int q1), .val (.int q2), .val (.int q3), .val (.int q4), .val (.int q5), .val (.int k), .val (.int av), .val (.int p0), .val (.int p1), .val (.int p2), .val (.int xt), .val (.int lst), .val (.int dm), .val (.double v0), .second, .val (.double v1), .second, .val (.double v2), .second, .val (.double jk), .second, .unset, .unset, .unset] [(.ref vs), (.ref ps), (.int dm), (.ref po), (.ref po)])) := r212.trans (st213 _ (Steps.refl _))
        have r215 : Steps p.tables e below S0 (T213.setTop (mkF m 351 #[.val (.int q1), .val (.int q2), .val (.int q3), .val (.int q4), .val (.int q5), .val (.int k), .val (.int av), .val (.int p0), .val (.int p1), .val (.int p2), .val (.int xt), .val (.int lst), .val (.int dm), .val (.double v0), .second, .val (.double v1), .second, .val (.double v2), .second, .val (.double jk), .second, .unset, .unset, .unset] [(.double v1), (.int (1 : Int32)), (.ref vs), (.ref vs), (.ref ps), (.int dm), (.ref po), (.ref po)])) := by
          refine r214.trans ?_
          show Steps p.tables e below (T213.setTop (mkF m 347 #[.val (.int q1), .val (.int q2), .val (.int q3), .val (.int q4), .val (.int q5), .val (.int k), .val (.int av), .val (.int p0), .val (.int p1), .val (.int p2), .val (.int xt), .val (.int lst), .val (.int dm), .val (.double v0), .second, .val (.double v1), .second, .val (.double v2), .second, .val (.double jk), .second, .unset, .unset, .unset] [(.ref vs), (.ref ps), (.int dm), (.ref po), (.ref po)])) _
          refine XS.dup X213.here hx rfl (hb hby at_347) rfl rfl ?_
          show Steps p.tables e below (T213.setTop (mkF m 348 #[.val (.int q1), .val (.int q2), .val (.int q3), .val (.int q4), .val (.int q5), .val (.int k), .val (.int av), .val (.int p0), .val (.int p1), .val (.int p2), .val (.int xt), .val (.int lst), .val (.int dm), .val (.double v0), .second, .val (.double v1), .second, .val (.double v2), .second, .val (.double jk), .second, .unset, .unset, .unset] [(.ref vs), (.ref vs), (.ref ps), (.int dm), (.ref po), (.ref po)])) _
          refine XS.iconst X213.here hx rfl (hb hby at_348) ?_
          show Steps p.tables e below (T213.setTop (mkF m 349 #[.val (.int q1), .val (.int q2), .val (.int q3), .val (.int q4), .val (.int q5), .val (.int k), .val (.int av), .val (.int p0), .val (.int p1), .val (.int p2), .val (.int xt), .val (.int lst), .val (.int dm), .val (.double v0), .second, .val (.double v1), .second, .val (.double v2), .second, .val (.double jk), .second, .unset, .unset, .unset] [(.int (1 : Int32)), (.ref vs), (.ref vs), (.ref ps), (.int dm), (.ref po), (.ref po)])) _
          refine XS.dload X213.here hx rfl (hb hby at_349) rfl ?_
          exact Steps.refl _
        obtain ⟨T216, h216, X216, e216, W216, st216⟩ := stDG X213 hx hZ e213 G213_vs (j := (1 : Int32)) (by decide) (by decide) (g := (mkF m 351 #[.val (.int q1), .val (.int q2), .val (.int q3), .val (.int q4), .val (.int q5), .val (.int k), .val (.int av), .val (.int p0), .val (.int p1), .val (.int p2), .val (.int xt), .val (.int lst), .val (.int dm), .val (.double v0), .second, .val (.double v1), .second, .val (.double v2), .second, .val (.double jk), .second, .unset, .unset, .unset] [(.double v1), (.int (1 : Int32)), (.ref vs), (.ref vs), (.ref ps), (.int dm), (.ref po), (.ref po)])) rfl rfl (hb hby at_351)
        have N216 := Fr.snoc X216 N213 g_vs
        have G216_ps := G213_ps.other W216 ne_ps_vs
        have G216_vs := G213_vs.set W216
        have F216_po_dimension := F213_po_dimension.other W216 (Or.inl ne_po_vs)
        have F216_po_positions := F213_po_positions.other W216 (Or.inl ne_po_vs)
        have F216_po_values := F213_po_values.other W216 (Or.inl ne_po_vs)
        have F216_po_from := F213_po_from.other W216 (Or.inl ne_po_vs)
        have F216_po_to := F213_po_to.other W216 (Or.inl ne_po_vs)
        have E216_po := E213_po.wr W216
        have E216_ps := E213_ps.wr W216
        have E216_vs := E213_vs.wr W216
        have Z216 : n0 ≤ h216.size := Nat.le_trans Z213 (Nat.le_of_eq W216.size.symm)
        have r217 : Steps p.tables e below S0 (T216.setTop (mkF m 352 #[.val (.int q1), .val (.int q2), .val (.int q3), .val (.int q4), .val (.int q5), .val (.int k), .val (.int av), .val (.int p0), .val (.int p1), .val (.int p2), .val (.int xt), .val (.int lst), .val (.int dm), .val (.double v0), .second, .val (.double v1), .second, .val (.double v2), .second, .val (.double jk), .second, .unset, .unset, .unset] [(.ref vs), (.ref ps), (.int dm), (.ref po), (.ref po)])) := r215.trans (st216 _ (Steps.refl _))
        have r218 : Steps p.tables e below S0 (T216.setTop (mkF m 356 #[.val (.int q1), .val (.int q2), .val (.int q3), .val (.int q4), .val (.int q5), .val (.int k), .val (.int av), .val (.int p0), .val (.int p1), .val (.int p2), .val (.int xt), .val (.int lst), .val (.int dm), .val (.double v0), .second, .val (.double v1), .second, .val (.double v2), .second, .val (.double jk), .second, .unset, .unset, .unset] [(.double v2), (.int (2 : Int32)), (.ref vs), (.ref vs), (.ref ps), (.int dm), (.ref po), (.ref po)])) := by
          refine r217.trans ?_
          show Steps p.tables e below (T216.setTop (mkF m 352 #[.val (.int q1), .val (.int q2), .val (.int q3), .val (.int q4), .val (.int q5), .val (.int k), .val (.int av), .val (.int p0), .val (.int p1), .val (.int p2), .val (.int xt), .val (.int lst), .val (.int dm), .val (.double v0), .second, .val (.double v1), .second, .val (.double v2), .second, .val (.double jk), .second, .unset, .unset, .unset] [(.ref vs), (.ref ps), (.int dm), (.ref po), (.ref po)])) _
          refine XS.dup X216.here hx rfl (hb hby at_352) rfl rfl ?_
          show Steps p.tables e below (T216.setTop (mkF m 353 #[.val (.int q1), .val (.int q2), .val (.int q3), .val (.int q4), .val (.int q5), .val (.int k), .val (.int av), .val (.int p0), .val (.int p1), .val (.int p2), .val (.int xt), .val (.int lst), .val (.int dm), .val (.double v0), .second, .val (.double v1), .second, .val (.double v2), .second, .val (.double jk), .second, .unset, .unset, .unset] [(.ref vs), (.ref vs), (.ref ps), (.int dm), (.ref po), (.ref po)])) _
          refine XS.iconst X216.here hx rfl (hb hby at_353) ?_
          show Steps p.tables e below (T216.setTop (mkF m 354 #[.val (.int q1), .val (.int q2), .val (.int q3), .val (.int q4), .val (.int q5), .val (.int k), .val (.int av), .val (.int p0), .val (.int p1), .val (.int p2), .val (.int xt), .val (.int lst), .val (.int dm), .val (.double v0), .second, .val (.double v1), .second, .val (.double v2), .second, .val (.double jk), .second, .unset, .unset, .unset] [(.int (2 : Int32)), (.ref vs), (.ref vs), (.ref ps), (.int dm), (.ref po), (.ref po)])) _
          refine XS.dload X216.here hx rfl (hb hby at_354) rfl ?_
          exact Steps.refl _
        obtain ⟨T219, h219, X219, e219, W219, st219⟩ := stDG X216 hx hZ e216 G216_vs (j := (2 : Int32)) (by decide) (by decide) (g := (mkF m 356 #[.val (.int q1), .val (.int q2), .val (.int q3), .val (.int q4), .val (.int q5), .val (.int k), .val (.int av), .val (.int p0), .val (.int p1), .val (.int p2), .val (.int xt), .val (.int lst), .val (.int dm), .val (.double v0), .second, .val (.double v1), .second, .val (.double v2), .second, .val (.double jk), .second, .unset, .unset, .unset] [(.double v2), (.int (2 : Int32)), (.ref vs), (.ref vs), (.ref ps), (.int dm), (.ref po), (.ref po)])) rfl rfl (hb hby at_356)
        have N219 := Fr.snoc X219 N216 g_vs
        have G219_ps := G216_ps.other W219 ne_ps_vs
        have G219_vs := G216_vs.set W219
        have F219_po_dimension := F216_po_dimension.other W219 (Or.inl ne_po_vs)
        have F219_po_positions := F216_po_positions.other W219 (Or.inl ne_po_vs)
        have F219_po_values := F216_po_values.other W219 (Or.inl ne_po_vs)
        have F219_po_from := F216_po_from.other W219 (Or.inl ne_po_vs)
        have F219_po_to := F216_po_to.other W219 (Or.inl ne_po_vs)
        have E219_po := E216_po.wr W219
        have E219_ps := E216_ps.wr W219
        have E219_vs := E216_vs.wr W219
        have Z219 : n0 ≤ h219.size := Nat.le_trans Z216 (Nat.le_of_eq W219.size.symm)
        have r220 : Steps p.tables e below S0 (T219.setTop (mkF m 357 #[.val (.int q1), .val (.int q2), .val (.int q3), .val (.int q4), .val (.int q5), .val (.int k), .val (.int av), .val (.int p0), .val (.int p1), .val (.int p2), .val (.int xt), .val (.int lst), .val (.int dm), .val (.double v0), .second, .val (.double v1), .second, .val (.double v2), .second, .val (.double jk), .second, .unset, .unset, .unset] [(.ref vs), (.ref ps), (.int dm), (.ref po), (.ref po)])) := r218.trans (st219 _ (Steps.refl _))
        have tk0 : (3 : Int32).toNatClampNeg = 3 := by decide
        have GP : Gar Z h219 ps .int (3 : Int32).toNatClampNeg (fun i => .int (own_p p0 p1 p2 i)) := G219_ps.congr (fun i hi => by
            rw [tk0] at hi
            have hi2 : i = 0 ∨ i = 1 ∨ i = 2 := by omega
            rcases hi2 with rfl | rfl | rfl <;> rfl)
        have GV : Gar Z h219 vs .double (3 : Int32).toNatClampNeg (fun i => .double (own_v v0 v1 v2 i)) := G219_vs.congr (fun i hi => by
            rw [tk0] at hi
            have hi2 : i = 0 ∨ i = 1 ∨ i = 2 := by omega
            rcases hi2 with rfl | rfl | rfl <;> rfl)
        have posp : ∀ i : Nat, (i : Int) < (3 : Int32).toInt → 0 ≤ (own_p p0 p1 p2 i).toInt ∧ (own_p p0 p1 p2 i).toInt < dm.toInt := by
          intro i hi
          rw [show (3 : Int32).toInt = 3 by decide] at hi
          have hi2 : i = 0 ∨ i = 1 ∨ i = 2 := by omega
          rcases hi2 with rfl | rfl | rfl
          · show 0 ≤ p0.toInt ∧ p0.toInt < dm.toInt; omega
          · show 0 ≤ p1.toInt ∧ p1.toInt < dm.toInt; omega
          · show 0 ≤ p2.toInt ∧ p2.toInt < dm.toInt; omega
        have incp : ∀ i : Nat, (i : Int) + 1 < (3 : Int32).toInt → (own_p p0 p1 p2 i).toInt < (own_p p0 p1 p2 (i + 1)).toInt := by
          intro i hi
          rw [show (3 : Int32).toInt = 3 by decide] at hi
          have hi2 : i = 0 ∨ i = 1 := by omega
          rcases hi2 with rfl | rfl
          · show p0.toInt < p1.toInt; omega
          · show p1.toInt < p2.toInt; omega
        obtain ⟨_, _, ⟨T221, L221, k221, n221⟩, -, X221, ⟨Lc221, hQ221, l221, y221, z221⟩, st221⟩ := X219.specialBack hx (y := (⟨"com/example/polytome/polytome/model/SparseVector", "<init>", "(I[I[D)V"⟩ : MethodName)) rfl hown (mvT hZ (hw _ (List.mem_of_getElem? (i := 5) rfl))) (mvT hZ (hw _ (List.mem_of_getElem? (i := 6) rfl))) (mvT hZ (hw _ (List.mem_of_getElem? (i := 7) rfl))) (by decide) (backOf (W := 1) (rm3 l Z a0 hw [] po dm ps vs (3 : Int32) (own_p p0 p1 p2) (own_v v0 v1 v2) h219 n0 Z219 E219_po g_po F219_po_dimension F219_po_positions F219_po_values F219_po_from F219_po_to GP GV E219_ps E219_vs ne_po_ps ne_po_vs (by decide) posp incp) hZ (hw _ (List.mem_of_getElem? (i := 7) rfl)) (hw _ (List.mem_of_getElem? (i := 2) rfl)) (by decide) (by decide)) (g := (mkF m 357 #[.val (.int q1), .val (.int q2), .val (.int q3), .val (.int q4), .val (.int q5), .val (.int k), .val (.int av), .val (.int p0), .val (.int p1), .val (.int p2), .val (.int xt), .val (.int lst), .val (.int dm), .val (.double v0), .second, .val (.double v1), .second, .val (.double v2), .second, .val (.double jk), .second, .unset, .unset, .unset] [(.ref vs), (.ref ps), (.int dm), (.ref po), (.ref po)])) rfl (by rw [hml]; rfl) (Steps.refl _) (a := po) (argsL := [(.int dm), (.ref ps), (.ref vs)]) (rest := [(.ref po)]) (lenOf pd_2 rfl) rfl (by show 2 * 0 + _ ≤ _; exact Nat.le_of_eq rfl) (hb hby at_357) (fun _ _ => ⟨rfl, e219, (by decide : (((0 + 1) + 1) + 1) + 2 ≤ _), (by decide : (((0 + 5) + 3) + 3) + 6 ≤ _)⟩)
        dsimp only [Pt.U, Pt.locs, Pt.cells, Pt.slots] at X221 l221 y221 z221 st221 hQ221
        subst l221 y221 z221
        obtain ⟨rfl, Nq221, b1, b2, hSV, GP1, GV1, ZZ⟩ := hQ221
        have N221 := Fr.app N219 Nq221
        have r222 : Steps p.tables e below S0 (T221.setTop (mkF m 360 #[.val (.int q1), .val (.int q2), .val (.int q3), .val (.int q4), .val (.int q5), .val (.int k), .val (.int av), .val (.int p0), .val (.int p1), .val (.int p2), .val (.int xt), .val (.int lst), .val (.int dm), .val (.double v0), .second, .val (.double v1), .second, .val (.double v2), .second, .val (.double jk), .second, .unset, .unset, .unset] [(.ref po)])) := r220.trans st221
        have hrng : ∀ i : Nat, (0 : Int32).toInt ≤ (i : Int) → (i : Int) < (3 : Int32).toInt → 0 ≤ ((own_p p0 p1 p2) i).toInt ∧ ((own_p p0 p1 p2) i).toInt < dm.toInt := by
          intro i h1 h2
          rw [show (0 : Int32).toInt = 0 by first | decide | (rw [z]; decide)] at h1
          rw [show (3 : Int32).toInt = 3 by first | decide | (rw [z]; decide)] at h2
          have hi : i = 0 ∨ i = 1 ∨ i = 2 := by omega
          rcases hi with rfl | rfl | rfl
          · show 0 ≤ p0.toInt ∧ p0.toInt < dm.toInt; omega
          · show 0 ≤ p1.toInt ∧ p1.toInt < dm.toInt; omega
          · show 0 ≤ p2.toInt ∧ p2.toInt < dm.toInt; omega
        have r223 : Steps p.tables e below S0 (T221.setTop (mkF m 364 #[.val (.int q1), .val (.int q2), .val (.int q3), .val (.int q4), .val (.int q5), .val (.int k), .val (.int av), .val (.int p0), .val (.int p1), .val (.int p2), .val (.int xt), .val (.int lst), .val (.int dm), .val (.double v0), .second, .val (.double v1), .second, .val (.double v2), .second, .val (.double jk), .second, .val (.ref po), .unset, .unset] [(.ref po)])) := by
          refine r222.trans ?_
          show Steps p.tables e below (T221.setTop (mkF m 360 #[.val (.int q1), .val (.int q2), .val (.int q3), .val (.int q4), .val (.int q5), .val (.int k), .val (.int av), .val (.int p0), .val (.int p1), .val (.int p2), .val (.int xt), .val (.int lst), .val (.int dm), .val (.double v0), .second, .val (.double v1), .second, .val (.double v2), .second, .val (.double jk), .second, .unset, .unset, .unset] [(.ref po)])) _
          refine XS.astore X221.here hx rfl (hb hby at_360) rfl rfl (l' := #[.val (.int q1), .val (.int q2), .val (.int q3), .val (.int q4), .val (.int q5), .val (.int k), .val (.int av), .val (.int p0), .val (.int p1), .val (.int p2), .val (.int xt), .val (.int lst), .val (.int dm), .val (.double v0), .second, .val (.double v1), .second, .val (.double v2), .second, .val (.double jk), .second, .val (.ref po), .unset, .unset]) rfl ?_
          show Steps p.tables e below (T221.setTop (mkF m 362 #[.val (.int q1), .val (.int q2), .val (.int q3), .val (.int q4), .val (.int q5), .val (.int k), .val (.int av), .val (.int p0), .val (.int p1), .val (.int p2), .val (.int xt), .val (.int lst), .val (.int dm), .val (.double v0), .second, .val (.double v1), .second, .val (.double v2), .second, .val (.double jk), .second, .val (.ref po), .unset, .unset] [])) _
          refine XS.aload X221.here hx rfl (hb hby at_362) rfl rfl ?_
          exact Steps.refl _
        obtain ⟨cq224, kq224, q224a, q224b, q224c⟩ := isOf hZ rfl hSV.1
        obtain ⟨_, _, ⟨T224, L224, k224, n224⟩, -, X224, ⟨Lc224, hQ224, l224, y224, z224⟩, st224⟩ := X221.virtualBack hx (y := (⟨"com/example/polytome/polytome/model/SparseVector", "toArray", "()[D"⟩ : MethodName)) (z := (⟨"com/example/polytome/polytome/model/SparseVector", "toArray", "()[D"⟩ : MethodName)) hown (mvT hZ (hw _ (List.mem_of_getElem? (i := 39) rfl))) (mvT hZ (hw _ (List.mem_of_getElem? (i := 40) rfl))) (notFace_of_selects (args := #[]) (mvT hZ (hw _ (List.mem_of_getElem? (i := 42) rfl)))) (mvT hZ (hw _ (List.mem_of_getElem? (i := 42) rfl))) (mvT hZ (hw _ (List.mem_of_getElem? (i := 41) rfl))) (by decide) (backOf (W := 0) (rmT l Z a0 hw [] po dm b1 b2 (0 : Int32) (3 : Int32) (3 : Int32).toNatClampNeg (own_p p0 p1 p2) (own_v v0 v1 v2) T221.heap n0 ZZ hSV GP1 GV1 bdm ⟨by first | decide | (rw [z]; decide), by first | decide | (rw [z]; decide), by first | decide | (rw [z]; decide)⟩ hrng) hZ (hw _ (List.mem_of_getElem? (i := 43) rfl)) (hw _ (List.mem_of_getElem? (i := 2) rfl)) (by decide) (by decide)) q224a q224c (g := (mkF m 364 #[.val (.int q1), .val (.int q2), .val (.int q3), .val (.int q4), .val (.int q5), .val (.int k), .val (.int av), .val (.int p0), .val (.int p1), .val (.int p2), .val (.int xt), .val (.int lst), .val (.int dm), .val (.double v0), .second, .val (.double v1), .second, .val (.double v2), .second, .val (.double jk), .second, .val (.ref po), .unset, .unset] [(.ref po)])) rfl (by rw [hml]; rfl) (Steps.refl _) (argsL := []) (rest := []) (lenOf pd_3 rfl) rfl (by show 2 * 0 + _ ≤ _; exact Nat.le_of_eq rfl) (hb hby at_364) (fun _ _ => ⟨rfl, rfl, (by decide : ((((0 + 1) + 1) + 1) + 2) + 1 ≤ _), (by decide : ((((0 + 5) + 3) + 3) + 6) + 15 ≤ _)⟩)
        dsimp only [Pt.U, Pt.locs, Pt.cells, Pt.slots] at X224 l224 y224 z224 st224 hQ224
        subst l224 y224 z224
        obtain ⟨c1, rfl, sc1, Gc1_, Kc224, Nq224⟩ := hQ224
        have N224 := Fr.app N221 Nq224
        have r225 : Steps p.tables e below S0 (T224.setTop (mkF m 367 #[.val (.int q1), .val (.int q2), .val (.int q3), .val (.int q4), .val (.int q5), .val (.int k), .val (.int av), .val (.int p0), .val (.int p1), .val (.int p2), .val (.int xt), .val (.int lst), .val (.int dm), .val (.double v0), .second, .val (.double v1), .second, .val (.double v2), .second, .val (.double jk), .second, .val (.ref po), .unset, .unset] [(.ref c1)])) := r223.trans st224
        have G224_b1 := GP1.keep Kc224 nin0
        have G224_b2 := GV1.keep Kc224 nin0
        have E224_sv_ := hSV.1.keep Kc224
        have E224_po := hSV.1.keep Kc224
        have Z224 : n0 ≤ T224.heap.size := Nat.le_trans ZZ Kc224.1
        have hSVc1 := own_svkeep hSV Kc224
        have G1_ : Gar Z T224.heap c1 .double dm.toNatClampNeg (fun i => .double (own_c k p0 p1 p2 v0 v1 v2 i)) := Gc1_.congr (fun i _ => by
            rw [show ((3 : Int32).toInt - (0 : Int32).toInt).toNat = 3 by first | decide | (rw [z]; decide), show (0 : Int32).toNatClampNeg = 0 by first | decide | (rw [z]; decide), z]
            rfl)
        have r226 : Steps p.tables e below S0 (T224.setTop (mkF m 371 #[.val (.int q1), .val (.int q2), .val (.int q3), .val (.int q4), .val (.int q5), .val (.int k), .val (.int av), .val (.int p0), .val (.int p1), .val (.int p2), .val (.int xt), .val (.int lst), .val (.int dm), .val (.double v0), .second, .val (.double v1), .second, .val (.double v2), .second, .val (.double jk), .second, .val (.ref po), .val (.ref c1), .unset] [(.ref po)])) := by
          refine r225.trans ?_
          show Steps p.tables e below (T224.setTop (mkF m 367 #[.val (.int q1), .val (.int q2), .val (.int q3), .val (.int q4), .val (.int q5), .val (.int k), .val (.int av), .val (.int p0), .val (.int p1), .val (.int p2), .val (.int xt), .val (.int lst), .val (.int dm), .val (.double v0), .second, .val (.double v1), .second, .val (.double v2), .second, .val (.double jk), .second, .val (.ref po), .unset, .unset] [(.ref c1)])) _
          refine XS.astore X224.here hx rfl (hb hby at_367) rfl rfl (l' := #[.val (.int q1), .val (.int q2), .val (.int q3), .val (.int q4), .val (.int q5), .val (.int k), .val (.int av), .val (.int p0), .val (.int p1), .val (.int p2), .val (.int xt), .val (.int lst), .val (.int dm), .val (.double v0), .second, .val (.double v1), .second, .val (.double v2), .second, .val (.double jk), .second, .val (.ref po), .val (.ref c1), .unset]) rfl ?_
          show Steps p.tables e below (T224.setTop (mkF m 369 #[.val (.int q1), .val (.int q2), .val (.int q3), .val (.int q4), .val (.int q5), .val (.int k), .val (.int av), .val (.int p0), .val (.int p1), .val (.int p2), .val (.int xt), .val (.int lst), .val (.int dm), .val (.double v0), .second, .val (.double v1), .second, .val (.double v2), .second, .val (.double jk), .second, .val (.ref po), .val (.ref c1), .unset] [])) _
          refine XS.aload X224.here hx rfl (hb hby at_369) rfl rfl ?_
          exact Steps.refl _
        obtain ⟨cq227, kq227, q227a, q227b, q227c⟩ := isOf hZ rfl hSVc1.1
        obtain ⟨_, _, ⟨T227, L227, k227, n227⟩, -, X227, ⟨Lc227, hQ227, l227, y227, z227⟩, st227⟩ := X224.virtualBack hx (y := (⟨"com/example/polytome/polytome/model/SparseVector", "toArray", "()[D"⟩ : MethodName)) (z := (⟨"com/example/polytome/polytome/model/SparseVector", "toArray", "()[D"⟩ : MethodName)) hown (mvT hZ (hw _ (List.mem_of_getElem? (i := 39) rfl))) (mvT hZ (hw _ (List.mem_of_getElem? (i := 40) rfl))) (notFace_of_selects (args := #[]) (mvT hZ (hw _ (List.mem_of_getElem? (i := 42) rfl)))) (mvT hZ (hw _ (List.mem_of_getElem? (i := 42) rfl))) (mvT hZ (hw _ (List.mem_of_getElem? (i := 41) rfl))) (by decide) (backOf (W := 0) (rmT l Z a0 hw [] po dm b1 b2 (0 : Int32) (3 : Int32) (3 : Int32).toNatClampNeg (own_p p0 p1 p2) (own_v v0 v1 v2) T224.heap n0 Z224 hSVc1 G224_b1 G224_b2 bdm ⟨by first | decide | (rw [z]; decide), by first | decide | (rw [z]; decide), by first | decide | (rw [z]; decide)⟩ hrng) hZ (hw _ (List.mem_of_getElem? (i := 43) rfl)) (hw _ (List.mem_of_getElem? (i := 2) rfl)) (by decide) (by decide)) q227a q227c (g := (mkF m 371 #[.val (.int q1), .val (.int q2), .val (.int q3), .val (.int q4), .val (.int q5), .val (.int k), .val (.int av), .val (.int p0), .val (.int p1), .val (.int p2), .val (.int xt), .val (.int lst), .val (.int dm), .val (.double v0), .second, .val (.double v1), .second, .val (.double v2), .second, .val (.double jk), .second, .val (.ref po), .val (.ref c1), .unset] [(.ref po)])) rfl (by rw [hml]; rfl) (Steps.refl _) (argsL := []) (rest := []) (lenOf pd_3 rfl) rfl (by show 2 * 0 + _ ≤ _; exact Nat.le_of_eq rfl) (hb hby at_371) (fun _ _ => ⟨rfl, rfl, (by decide : (((((0 + 1) + 1) + 1) + 2) + 1) + 1 ≤ _), (by decide : (((((0 + 5) + 3) + 3) + 6) + 15) + 15 ≤ _)⟩)
        dsimp only [Pt.U, Pt.locs, Pt.cells, Pt.slots] at X227 l227 y227 z227 st227 hQ227
        subst l227 y227 z227
        obtain ⟨c2, rfl, sc2, Gc2_, Kc227, Nq227⟩ := hQ227
        have N227 := Fr.app N224 Nq227
        have r228 : Steps p.tables e below S0 (T227.setTop (mkF m 374 #[.val (.int q1), .val (.int q2), .val (.int q3), .val (.int q4), .val (.int q5), .val (.int k), .val (.int av), .val (.int p0), .val (.int p1), .val (.int p2), .val (.int xt), .val (.int lst), .val (.int dm), .val (.double v0), .second, .val (.double v1), .second, .val (.double v2), .second, .val (.double jk), .second, .val (.ref po), .val (.ref c1), .unset] [(.ref c2)])) := r226.trans st227
        have G227_b1 := G224_b1.keep Kc227 nin0
        have G227_b2 := G224_b2.keep Kc227 nin0
        have G227_c1 := G1_.keep Kc227 nin0
        have E227_sv_ := E224_sv_.keep Kc227
        have E227_po := hSVc1.1.keep Kc227
        have Z227 : n0 ≤ T227.heap.size := Nat.le_trans Z224 Kc227.1
        have hSVc2 := own_svkeep hSVc1 Kc227
        have r229 : Steps p.tables e below S0 (T227.setTop (mkF m 376 #[.val (.int q1), .val (.int q2), .val (.int q3), .val (.int q4), .val (.int q5), .val (.int k), .val (.int av), .val (.int p0), .val (.int p1), .val (.int p2), .val (.int xt), .val (.int lst), .val (.int dm), .val (.double v0), .second, .val (.double v1), .second, .val (.double v2), .second, .val (.double jk), .second, .val (.ref po), .val (.ref c1), .val (.ref c2)] [])) := by
          refine r228.trans ?_
          show Steps p.tables e below (T227.setTop (mkF m 374 #[.val (.int q1), .val (.int q2), .val (.int q3), .val (.int q4), .val (.int q5), .val (.int k), .val (.int av), .val (.int p0), .val (.int p1), .val (.int p2), .val (.int xt), .val (.int lst), .val (.int dm), .val (.double v0), .second, .val (.double v1), .second, .val (.double v2), .second, .val (.double jk), .second, .val (.ref po), .val (.ref c1), .unset] [(.ref c2)])) _
          refine XS.astore X227.here hx rfl (hb hby at_374) rfl rfl (l' := #[.val (.int q1), .val (.int q2), .val (.int q3), .val (.int q4), .val (.int q5), .val (.int k), .val (.int av), .val (.int p0), .val (.int p1), .val (.int p2), .val (.int xt), .val (.int lst), .val (.int dm), .val (.double v0), .second, .val (.double v1), .second, .val (.double v2), .second, .val (.double jk), .second, .val (.ref po), .val (.ref c1), .val (.ref c2)]) rfl ?_
          exact Steps.refl _
        have hne_ : c1 ≠ c2 := Nat.ne_of_lt (Nat.lt_of_lt_of_le G1_.lt sc2)
        exact ⟨_, _, _, po, c1, c2, X227.more (by decide) (by decide), rfl, N227, Z227, hne_, G227_c1, r229⟩
    · skip
      have r230 : Steps p.tables e below S0 (s₁.setTop (mkF m 132 #[.val (.int q1), .val (.int q2), .val (.int q3), .val (.int q4), .val (.int q5), .val (.int k), .val (.int av), .val (.int p0), .val (.int p1), .val (.int p2), .val (.int xt), .val (.int lst), .val (.int dm), .val (.double v0), .second, .val (.double v1), .second, .val (.double v2), .second, .val (.double jk), .second, .unset, .unset, .unset] [(.int (5 : Int32))])) := by
        refine r121.trans ?_
        show Steps p.tables e below (s₁.setTop (mkF m 128 #[.val (.int q1), .val (.int q2), .val (.int q3), .val (.int q4), .val (.int q5), .val (.int k), .val (.int av), .val (.int p0), .val (.int p1), .val (.int p2), .val (.int xt), .val (.int lst), .val (.int dm), .val (.double v0), .second, .val (.double v1), .second, .val (.double v2), .second, .val (.double jk), .second, .unset, .unset, .unset] [(.int av)])) _
        refine XS.ifNo X0.here hx rfl (hb hby at_128) rfl ((if0 _ _).trans (feq hav).1) ?_
        show Steps p.tables e below (s₁.setTop (mkF m 131 #[.val (.int q1), .val (.int q2), .val (.int q3), .val (.int q4), .val (.int q5), .val (.int k), .val (.int av), .val (.int p0), .val (.int p1), .val (.int p2), .val (.int xt), .val (.int lst), .val (.int dm), .val (.double v0), .second, .val (.double v1), .second, .val (.double v2), .second, .val (.double jk), .second, .unset, .unset, .unset] [])) _
        refine XS.iconst X0.here hx rfl (hb hby at_131) ?_
        exact Steps.refl _
      obtain ⟨T231, h231, k231, X231, e231, E231, A231, st231⟩ := newP X0 hx hZ (hw _ (List.mem_of_getElem? (i := 3) rfl)) e0 (g := (mkF m 132 #[.val (.int q1), .val (.int q2), .val (.int q3), .val (.int q4), .val (.int q5), .val (.int k), .val (.int av), .val (.int p0), .val (.int p1), .val (.int p2), .val (.int xt), .val (.int lst), .val (.int dm), .val (.double v0), .second, .val (.double v1), .second, .val (.double v2), .second, .val (.double jk), .second, .unset, .unset, .unset] [(.int (5 : Int32))])) rfl (hb hby at_132) rfl (by decide) (cap := 5) (by decide) (by decide) (by decide) (by decide)
      obtain ⟨ps, g231⟩ : ∃ z, z = h0.size := ⟨_, rfl⟩
      rw [← g231] at A231 st231
      have G_ps : Gar Z h231 ps .int ((5 : Int32)).toNatClampNeg (fun _ => defaultValue .int) := Gar.new A231
      have g_ps : n0 ≤ ps := Nat.le_trans Z0 (Nat.le_of_eq g231.symm)
      have Z231 : n0 ≤ h231.size := Nat.le_trans Z0 E231.1
      have r232 : Steps p.tables e below S0 (T231.setTop (mkF m 134 #[.val (.int q1), .val (.int q2), .val (.int q3), .val (.int q4), .val (.int q5), .val (.int k), .val (.int av), .val (.int p0), .val (.int p1), .val (.int p2), .val (.int xt), .val (.int lst), .val (.int dm), .val (.double v0), .second, .val (.double v1), .second, .val (.double v2), .second, .val (.double jk), .second, .unset, .unset, .unset] [(.ref ps)])) := r230.trans (st231 _ (Steps.refl _))
      have r233 : Steps p.tables e below S0 (T231.setTop (mkF m 137 #[.val (.int q1), .val (.int q2), .val (.int q3), .val (.int q4), .val (.int q5), .val (.int k), .val (.int av), .val (.int p0), .val (.int p1), .val (.int p2), .val (.int xt), .val (.int lst), .val (.int dm), .val (.double v0), .second, .val (.double v1), .second, .val (.double v2), .second, .val (.double jk), .second, .unset, .unset, .unset] [(.int (0 : Int32)), (.int (0 : Int32)), (.ref ps), (.ref ps)])) := by
        refine r232.trans ?_
        show Steps p.tables e below (T231.setTop (mkF m 134 #[.val (.int q1), .val (.int q2), .val (.int q3), .val (.int q4), .val (.int q5), .val (.int k), .val (.int av), .val (.int p0), .val (.int p1), .val (.int p2), .val (.int xt), .val (.int lst), .val (.int dm), .val (.double v0), .second, .val (.double v1), .second, .val (.double v2), .second, .val (.double jk), .second, .unset, .unset, .unset] [(.ref ps)])) _
        refine XS.dup X231.here hx rfl (hb hby at_134) rfl rfl ?_
        show Steps p.tables e below (T231.setTop (mkF m 135 #[.val (.int q1), .val (.int q2), .val (.int q3), .val (.int q4), .val (.int q5), .val (.int k), .val (.int av), .val (.int p0), .val (.int p1), .val (.int p2), .val (.int xt), .val (.int lst), .val (.int dm), .val (.double v0), .second, .val (.double v1), .second, .val (.double v2), .second, .val (.double jk), .second, .unset, .unset, .unset] [(.ref ps), (.ref ps)])) _
        refine XS.iconst X231.here hx rfl (hb hby at_135) ?_
        show Steps p.tables e below (T231.setTop (mkF m 136 #[.val (.int q1), .val (.int q2), .val (.int q3), .val (.int q4), .val (.int q5), .val (.int k), .val (.int av), .val (.int p0), .val (.int p1), .val (.int p2), .val (.int xt), .val (.int lst), .val (.int dm), .val (.double v0), .second, .val (.double v1), .second, .val (.double v2), .second, .val (.double jk), .second, .unset, .unset, .unset] [(.int (0 : Int32)), (.ref ps), (.ref ps)])) _
        refine XS.iconst X231.here hx rfl (hb hby at_136) ?_
        exact Steps.refl _
      obtain ⟨T234, h234, X234, e234, W234, st234⟩ := stIG X231 hx hZ e231 G_ps (j := (0 : Int32)) (by decide) (by decide) (g := (mkF m 137 #[.val (.int q1), .val (.int q2), .val (.int q3), .val (.int q4), .val (.int q5), .val (.int k), .val (.int av), .val (.int p0), .val (.int p1), .val (.int p2), .val (.int xt), .val (.int lst), .val (.int dm), .val (.double v0), .second, .val (.double v1), .second, .val (.double v2), .second, .val (.double jk), .second, .unset, .unset, .unset] [(.int (0 : Int32)), (.int (0 : Int32)), (.ref ps), (.ref ps)])) rfl rfl (hb hby at_137)
      have N234 := Fr.snoc X234 N0 g_ps
      have G234_ps := G_ps.set W234
      have Z234 : n0 ≤ h234.size := Nat.le_trans Z231 (Nat.le_of_eq W234.size.symm)
      have r235 : Steps p.tables e below S0 (T234.setTop (mkF m 138 #[.val (.int q1), .val (.int q2), .val (.int q3), .val (.int q4), .val (.int q5), .val (.int k), .val (.int av), .val (.int p0), .val (.int p1), .val (.int p2), .val (.int xt), .val (.int lst), .val (.int dm), .val (.double v0), .second, .val (.double v1), .second, .val (.double v2), .second, .val (.double jk), .second, .unset, .unset, .unset] [(.ref ps)])) := r233.trans (st234 _ (Steps.refl _))
      have r236 : Steps p.tables e below S0 (T234.setTop (mkF m 142 #[.val (.int q1), .val (.int q2), .val (.int q3), .val (.int q4), .val (.int q5), .val (.int k), .val (.int av), .val (.int p0), .val (.int p1), .val (.int p2), .val (.int xt), .val (.int lst), .val (.int dm), .val (.double v0), .second, .val (.double v1), .second, .val (.double v2), .second, .val (.double jk), .second, .unset, .unset, .unset] [(.int p0), (.int (1 : Int32)), (.ref ps), (.ref ps)])) := by
        refine r235.trans ?_
        show Steps p.tables e below (T234.setTop (mkF m 138 #[.val (.int q1), .val (.int q2), .val (.int q3), .val (.int q4), .val (.int q5), .val (.int k), .val (.int av), .val (.int p0), .val (.int p1), .val (.int p2), .val (.int xt), .val (.int lst), .val (.int dm), .val (.double v0), .second, .val (.double v1), .second, .val (.double v2), .second, .val (.double jk), .second, .unset, .unset, .unset] [(.ref ps)])) _
        refine XS.dup X234.here hx rfl (hb hby at_138) rfl rfl ?_
        show Steps p.tables e below (T234.setTop (mkF m 139 #[.val (.int q1), .val (.int q2), .val (.int q3), .val (.int q4), .val (.int q5), .val (.int k), .val (.int av), .val (.int p0), .val (.int p1), .val (.int p2), .val (.int xt), .val (.int lst), .val (.int dm), .val (.double v0), .second, .val (.double v1), .second, .val (.double v2), .second, .val (.double jk), .second, .unset, .unset, .unset] [(.ref ps), (.ref ps)])) _
        refine XS.iconst X234.here hx rfl (hb hby at_139) ?_
        show Steps p.tables e below (T234.setTop (mkF m 140 #[.val (.int q1), .val (.int q2), .val (.int q3), .val (.int q4), .val (.int q5), .val (.int k), .val (.int av), .val (.int p0), .val (.int p1), .val (.int p2), .val (.int xt), .val (.int lst), .val (.int dm), .val (.double v0), .second, .val (.double v1), .second, .val (.double v2), .second, .val (.double jk), .second, .unset, .unset, .unset] [(.int (1 : Int32)), (.ref ps), (.ref ps)])) _
        refine XS.iload X234.here hx rfl (hb hby at_140) rfl ?_
        exact Steps.refl _
      obtain ⟨T237, h237, X237, e237, W237, st237⟩ := stIG X234 hx hZ e234 G234_ps (j := (1 : Int32)) (by decide) (by decide) (g := (mkF m 142 #[.val (.int q1), .val (.int q2), .val (.int q3), .val (.int q4), .val (.int q5), .val (.int k), .val (.int av), .val (.int p0), .val (.int p1), .val (.int p2), .val (.int xt), .val (.int lst), .val (.int dm), .val (.double v0), .second, .val (.double v1), .second, .val (.double v2), .second, .val (.double jk), .second, .unset, .unset, .unset] [(.int p0), (.int (1 : Int32)), (.ref ps), (.ref ps)])) rfl rfl (hb hby at_142)
      have N237 := Fr.snoc X237 N234 g_ps
      have G237_ps := G234_ps.set W237
      have Z237 : n0 ≤ h237.size := Nat.le_trans Z234 (Nat.le_of_eq W237.size.symm)
      have r238 : Steps p.tables e below S0 (T237.setTop (mkF m 143 #[.val (.int q1), .val (.int q2), .val (.int q3), .val (.int q4), .val (.int q5), .val (.int k), .val (.int av), .val (.int p0), .val (.int p1), .val (.int p2), .val (.int xt), .val (.int lst), .val (.int dm), .val (.double v0), .second, .val (.double v1), .second, .val (.double v2), .second, .val (.double jk), .second, .unset, .unset, .unset] [(.ref ps)])) := r236.trans (st237 _ (Steps.refl _))
      have r239 : Steps p.tables e below S0 (T237.setTop (mkF m 147 #[.val (.int q1), .val (.int q2), .val (.int q3), .val (.int q4), .val (.int q5), .val (.int k), .val (.int av), .val (.int p0), .val (.int p1), .val (.int p2), .val (.int xt), .val (.int lst), .val (.int dm), .val (.double v0), .second, .val (.double v1), .second, .val (.double v2), .second, .val (.double jk), .second, .unset, .unset, .unset] [(.int p1), (.int (2 : Int32)), (.ref ps), (.ref ps)])) := by
        refine r238.trans ?_
        show Steps p.tables e below (T237.setTop (mkF m 143 #[.val (.int q1), .val (.int q2), .val (.int q3), .val (.int q4), .val (.int q5), .val (.int k), .val (.int av), .val (.int p0), .val (.int p1), .val (.int p2), .val (.int xt), .val (.int lst), .val (.int dm), .val (.double v0), .second, .val (.double v1), .second, .val (.double v2), .second, .val (.double jk), .second, .unset, .unset, .unset] [(.ref ps)])) _
        refine XS.dup X237.here hx rfl (hb hby at_143) rfl rfl ?_
        show Steps p.tables e below (T237.setTop (mkF m 144 #[.val (.int q1), .val (.int q2), .val (.int q3), .val (.int q4), .val (.int q5), .val (.int k), .val (.int av), .val (.int p0), .val (.int p1), .val (.int p2), .val (.int xt), .val (.int lst), .val (.int dm), .val (.double v0), .second, .val (.double v1), .second, .val (.double v2), .second, .val (.double jk), .second, .unset, .unset, .unset] [(.ref ps), (.ref ps)])) _
        refine XS.iconst X237.here hx rfl (hb hby at_144) ?_
        show Steps p.tables e below (T237.setTop (mkF m 145 #[.val (.int q1), .val (.int q2), .val (.int q3), .val (.int q4), .val (.int q5), .val (.int k), .val (.int av), .val (.int p0), .val (.int p1), .val (.int p2), .val (.int xt), .val (.int lst), .val (.int dm), .val (.double v0), .second, .val (.double v1), .second, .val (.double v2), .second, .val (.double jk), .second, .unset, .unset, .unset] [(.int (2 : Int32)), (.ref ps), (.ref ps)])) _
        refine XS.iload X237.here hx rfl (hb hby at_145) rfl ?_
        exact Steps.refl _
      obtain ⟨T240, h240, X240, e240, W240, st240⟩ := stIG X237 hx hZ e237 G237_ps (j := (2 : Int32)) (by decide) (by decide) (g := (mkF m 147 #[.val (.int q1), .val (.int q2), .val (.int q3), .val (.int q4), .val (.int q5), .val (.int k), .val (.int av), .val (.int p0), .val (.int p1), .val (.int p2), .val (.int xt), .val (.int lst), .val (.int dm), .val (.double v0), .second, .val (.double v1), .second, .val (.double v2), .second, .val (.double jk), .second, .unset, .unset, .unset] [(.int p1), (.int (2 : Int32)), (.ref ps), (.ref ps)])) rfl rfl (hb hby at_147)
      have N240 := Fr.snoc X240 N237 g_ps
      have G240_ps := G237_ps.set W240
      have Z240 : n0 ≤ h240.size := Nat.le_trans Z237 (Nat.le_of_eq W240.size.symm)
      have r241 : Steps p.tables e below S0 (T240.setTop (mkF m 148 #[.val (.int q1), .val (.int q2), .val (.int q3), .val (.int q4), .val (.int q5), .val (.int k), .val (.int av), .val (.int p0), .val (.int p1), .val (.int p2), .val (.int xt), .val (.int lst), .val (.int dm), .val (.double v0), .second, .val (.double v1), .second, .val (.double v2), .second, .val (.double jk), .second, .unset, .unset, .unset] [(.ref ps)])) := r239.trans (st240 _ (Steps.refl _))
      have r242 : Steps p.tables e below S0 (T240.setTop (mkF m 152 #[.val (.int q1), .val (.int q2), .val (.int q3), .val (.int q4), .val (.int q5), .val (.int k), .val (.int av), .val (.int p0), .val (.int p1), .val (.int p2), .val (.int xt), .val (.int lst), .val (.int dm), .val (.double v0), .second, .val (.double v1), .second, .val (.double v2), .second, .val (.double jk), .second, .unset, .unset, .unset] [(.int p2), (.int (3 : Int32)), (.ref ps), (.ref ps)])) := by
        refine r241.trans ?_
        show Steps p.tables e below (T240.setTop (mkF m 148 #[.val (.int q1), .val (.int q2), .val (.int q3), .val (.int q4), .val (.int q5), .val (.int k), .val (.int av), .val (.int p0), .val (.int p1), .val (.int p2), .val (.int xt), .val (.int lst), .val (.int dm), .val (.double v0), .second, .val (.double v1), .second, .val (.double v2), .second, .val (.double jk), .second, .unset, .unset, .unset] [(.ref ps)])) _
        refine XS.dup X240.here hx rfl (hb hby at_148) rfl rfl ?_
        show Steps p.tables e below (T240.setTop (mkF m 149 #[.val (.int q1), .val (.int q2), .val (.int q3), .val (.int q4), .val (.int q5), .val (.int k), .val (.int av), .val (.int p0), .val (.int p1), .val (.int p2), .val (.int xt), .val (.int lst), .val (.int dm), .val (.double v0), .second, .val (.double v1), .second, .val (.double v2), .second, .val (.double jk), .second, .unset, .unset, .unset] [(.ref ps), (.ref ps)])) _
        refine XS.iconst X240.here hx rfl (hb hby at_149) ?_
        show Steps p.tables e below (T240.setTop (mkF m 150 #[.val (.int q1), .val (.int q2), .val (.int q3), .val (.int q4), .val (.int q5), .val (.int k), .val (.int av), .val (.int p0), .val (.int p1), .val (.int p2), .val (.int xt), .val (.int lst), .val (.int dm), .val (.double v0), .second, .val (.double v1), .second, .val (.double v2), .second, .val (.double jk), .second, .unset, .unset, .unset] [(.int (3 : Int32)), (.ref ps), (.ref ps)])) _
        refine XS.iload X240.here hx rfl (hb hby at_150) rfl ?_
        exact Steps.refl _
      obtain ⟨T243, h243, X243, e243, W243, st243⟩ := stIG X240 hx hZ e240 G240_ps (j := (3 : Int32)) (by decide) (by decide) (g := (mkF m 152 #[.val (.int q1), .val (.int q2), .val (.int q3), .val (.int q4), .val (.int q5), .val (.int k), .val (.int av), .val (.int p0), .val (.int p1), .val (.int p2), .val (.int xt), .val (.int lst), .val (.int dm), .val (.double v0), .second, .val (.double v1), .second, .val (.double v2), .second, .val (.double jk), .second, .unset, .unset, .unset] [(.int p2), (.int (3 : Int32)), (.ref ps), (.ref ps)])) rfl rfl (hb hby at_152)
      have N243 := Fr.snoc X243 N240 g_ps
      have G243_ps := G240_ps.set W243
      have Z243 : n0 ≤ h243.size := Nat.le_trans Z240 (Nat.le_of_eq W243.size.symm)
      have r244 : Steps p.tables e below S0 (T243.setTop (mkF m 153 #[.val (.int q1), .val (.int q2), .val (.int q3), .val (.int q4), .val (.int q5), .val (.int k), .val (.int av), .val (.int p0), .val (.int p1), .val (.int p2), .val (.int xt), .val (.int lst), .val (.int dm), .val (.double v0), .second, .val (.double v1), .second, .val (.double v2), .second, .val (.double jk), .second, .unset, .unset, .unset] [(.ref ps)])) := r242.trans (st243 _ (Steps.refl _))
      have r245 : Steps p.tables e below S0 (T243.setTop (mkF m 156 #[.val (.int q1), .val (.int q2), .val (.int q3), .val (.int q4), .val (.int q5), .val (.int k), .val (.int av), .val (.int p0), .val (.int p1), .val (.int p2), .val (.int xt), .val (.int lst), .val (.int dm), .val (.double v0), .second, .val (.double v1), .second, .val (.double v2), .second, .val (.double jk), .second, .unset, .unset, .unset] [(.int (0 : Int32)), (.int (4 : Int32)), (.ref ps), (.ref ps)])) := by
        refine r244.trans ?_
        show Steps p.tables e below (T243.setTop (mkF m 153 #[.val (.int q1), .val (.int q2), .val (.int q3), .val (.int q4), .val (.int q5), .val (.int k), .val (.int av), .val (.int p0), .val (.int p1), .val (.int p2), .val (.int xt), .val (.int lst), .val (.int dm), .val (.double v0), .second, .val (.double v1), .second, .val (.double v2), .second, .val (.double jk), .second, .unset, .unset, .unset] [(.ref ps)])) _
        refine XS.dup X243.here hx rfl (hb hby at_153) rfl rfl ?_
        show Steps p.tables e below (T243.setTop (mkF m 154 #[.val (.int q1), .val (.int q2), .val (.int q3), .val (.int q4), .val (.int q5), .val (.int k), .val (.int av), .val (.int p0), .val (.int p1), .val (.int p2), .val (.int xt), .val (.int lst), .val (.int dm), .val (.double v0), .second, .val (.double v1), .second, .val (.double v2), .second, .val (.double jk), .second, .unset, .unset, .unset] [(.ref ps), (.ref ps)])) _
        refine XS.iconst X243.here hx rfl (hb hby at_154) ?_
        show Steps p.tables e below (T243.setTop (mkF m 155 #[.val (.int q1), .val (.int q2), .val (.int q3), .val (.int q4), .val (.int q5), .val (.int k), .val (.int av), .val (.int p0), .val (.int p1), .val (.int p2), .val (.int xt), .val (.int lst), .val (.int dm), .val (.double v0), .second, .val (.double v1), .second, .val (.double v2), .second, .val (.double jk), .second, .unset, .unset, .unset] [(.int (4 : Int32)), (.ref ps), (.ref ps)])) _
        refine XS.iconst X243.here hx rfl (hb hby at_155) ?_
        exact Steps.refl _
      obtain ⟨T246, h246, X246, e246, W246, st246⟩ := stIG X243 hx hZ e243 G243_ps (j := (4 : Int32)) (by decide) (by decide) (g := (mkF m 156 #[.val (.int q1), .val (.int q2), .val (.int q3), .val (.int q4), .val (.int q5), .val (.int k), .val (.int av), .val (.int p0), .val (.int p1), .val (.int p2), .val (.int xt), .val (.int lst), .val (.int dm), .val (.double v0), .second, .val (.double v1), .second, .val (.double v2), .second, .val (.double jk), .second, .unset, .unset, .unset] [(.int (0 : Int32)), (.int (4 : Int32)), (.ref ps), (.ref ps)])) rfl rfl (hb hby at_156)
      have N246 := Fr.snoc X246 N243 g_ps
      have G246_ps := G243_ps.set W246
      have Z246 : n0 ≤ h246.size := Nat.le_trans Z243 (Nat.le_of_eq W246.size.symm)
      have r247 : Steps p.tables e below S0 (T246.setTop (mkF m 157 #[.val (.int q1), .val (.int q2), .val (.int q3), .val (.int q4), .val (.int q5), .val (.int k), .val (.int av), .val (.int p0), .val (.int p1), .val (.int p2), .val (.int xt), .val (.int lst), .val (.int dm), .val (.double v0), .second, .val (.double v1), .second, .val (.double v2), .second, .val (.double jk), .second, .unset, .unset, .unset] [(.ref ps)])) := r245.trans (st246 _ (Steps.refl _))
      have r248 : Steps p.tables e below S0 (T246.setTop (mkF m 160 #[.val (.int q1), .val (.int q2), .val (.int q3), .val (.int q4), .val (.int q5), .val (.int k), .val (.int av), .val (.int p0), .val (.int p1), .val (.int p2), .val (.int xt), .val (.int lst), .val (.int dm), .val (.double v0), .second, .val (.double v1), .second, .val (.double v2), .second, .val (.double jk), .second, .unset, .val (.ref ps), .unset] [(.int (5 : Int32))])) := by
        refine r247.trans ?_
        show Steps p.tables e below (T246.setTop (mkF m 157 #[.val (.int q1), .val (.int q2), .val (.int q3), .val (.int q4), .val (.int q5), .val (.int k), .val (.int av), .val (.int p0), .val (.int p1), .val (.int p2), .val (.int xt), .val (.int lst), .val (.int dm), .val (.double v0), .second, .val (.double v1), .second, .val (.double v2), .second, .val (.double jk), .second, .unset, .unset, .unset] [(.ref ps)])) _
        refine XS.astore X246.here hx rfl (hb hby at_157) rfl rfl (l' := #[.val (.int q1), .val (.int q2), .val (.int q3), .val (.int q4), .val (.int q5), .val (.int k), .val (.int av), .val (.int p0), .val (.int p1), .val (.int p2), .val (.int xt), .val (.int lst), .val (.int dm), .val (.double v0), .second, .val (.double v1), .second, .val (.double v2), .second, .val (.double jk), .second, .unset, .val (.ref ps), .unset]) rfl ?_
        show Steps p.tables e below (T246.setTop (mkF m 159 #[.val (.int q1), .val (.int q2), .val (.int q3), .val (.int q4), .val (.int q5), .val (.int k), .val (.int av), .val (.int p0), .val (.int p1), .val (.int p2), .val (.int xt), .val (.int lst), .val (.int dm), .val (.double v0), .second, .val (.double v1), .second, .val (.double v2), .second, .val (.double jk), .second, .unset, .val (.ref ps), .unset] [])) _
        refine XS.iconst X246.here hx rfl (hb hby at_159) ?_
        exact Steps.refl _
      obtain ⟨T249, h249, k249, X249, e249, E249, A249, st249⟩ := newP X246 hx hZ (hw _ (List.mem_of_getElem? (i := 4) rfl)) e246 (g := (mkF m 160 #[.val (.int q1), .val (.int q2), .val (.int q3), .val (.int q4), .val (.int q5), .val (.int k), .val (.int av), .val (.int p0), .val (.int p1), .val (.int p2), .val (.int xt), .val (.int lst), .val (.int dm), .val (.double v0), .second, .val (.double v1), .second, .val (.double v2), .second, .val (.double jk), .second, .unset, .val (.ref ps), .unset] [(.int (5 : Int32))])) rfl (hb hby at_160) rfl (by decide) (cap := 5) (by decide) (by decide) (by decide) (by decide)
      obtain ⟨vs, g249⟩ : ∃ z, z = h246.size := ⟨_, rfl⟩
      rw [← g249] at A249 st249
      have ne_ps_vs : ps ≠ vs := Nat.ne_of_lt (by rw [g249]; exact G246_ps.lt)
      have G_vs : Gar Z h249 vs .double ((5 : Int32)).toNatClampNeg (fun _ => defaultValue .double) := Gar.new A249
      have g_vs : n0 ≤ vs := Nat.le_trans Z246 (Nat.le_of_eq g249.symm)
      have G249_ps := G246_ps.ext E249
      have Z249 : n0 ≤ h249.size := Nat.le_trans Z246 E249.1
      have r250 : Steps p.tables e below S0 (T249.setTop (mkF m 162 #[.val (.int q1), .val (.int q2), .val (.int q3), .val (.int q4), .val (.int q5), .val (.int k), .val (.int av), .val (.int p0), .val (.int p1), .val (.int p2), .val (.int xt), .val (.int lst), .val (.int dm), .val (.double v0), .second, .val (.double v1), .second, .val (.double v2), .second, .val (.double jk), .second, .unset, .val (.ref ps), .unset] [(.ref vs)])) := r248.trans (st249 _ (Steps.refl _))
      have r251 : Steps p.tables e below S0 (T249.setTop (mkF m 166 #[.val (.int q1), .val (.int q2), .val (.int q3), .val (.int q4), .val (.int q5), .val (.int k), .val (.int av), .val (.int p0), .val (.int p1), .val (.int p2), .val (.int xt), .val (.int lst), .val (.int dm), .val (.double v0), .second, .val (.double v1), .second, .val (.double v2), .second, .val (.double jk), .second, .unset, .val (.ref ps), .unset] [(.double jk), (.int (0 : Int32)), (.ref vs), (.ref vs)])) := by
        refine r250.trans ?_
        show Steps p.tables e below (T249.setTop (mkF m 162 #[.val (.int q1), .val (.int q2), .val (.int q3), .val (.int q4), .val (.int q5), .val (.int k), .val (.int av), .val (.int p0), .val (.int p1), .val (.int p2), .val (.int xt), .val (.int lst), .val (.int dm), .val (.double v0), .second, .val (.double v1), .second, .val (.double v2), .second, .val (.double jk), .second, .unset, .val (.ref ps), .unset] [(.ref vs)])) _
        refine XS.dup X249.here hx rfl (hb hby at_162) rfl rfl ?_
        show Steps p.tables e below (T249.setTop (mkF m 163 #[.val (.int q1), .val (.int q2), .val (.int q3), .val (.int q4), .val (.int q5), .val (.int k), .val (.int av), .val (.int p0), .val (.int p1), .val (.int p2), .val (.int xt), .val (.int lst), .val (.int dm), .val (.double v0), .second, .val (.double v1), .second, .val (.double v2), .second, .val (.double jk), .second, .unset, .val (.ref ps), .unset] [(.ref vs), (.ref vs)])) _
        refine XS.iconst X249.here hx rfl (hb hby at_163) ?_
        show Steps p.tables e below (T249.setTop (mkF m 164 #[.val (.int q1), .val (.int q2), .val (.int q3), .val (.int q4), .val (.int q5), .val (.int k), .val (.int av), .val (.int p0), .val (.int p1), .val (.int p2), .val (.int xt), .val (.int lst), .val (.int dm), .val (.double v0), .second, .val (.double v1), .second, .val (.double v2), .second, .val (.double jk), .second, .unset, .val (.ref ps), .unset] [(.int (0 : Int32)), (.ref vs), (.ref vs)])) _
        refine XS.dload X249.here hx rfl (hb hby at_164) rfl ?_
        exact Steps.refl _
      obtain ⟨T252, h252, X252, e252, W252, st252⟩ := stDG X249 hx hZ e249 G_vs (j := (0 : Int32)) (by decide) (by decide) (g := (mkF m 166 #[.val (.int q1), .val (.int q2), .val (.int q3), .val (.int q4), .val (.int q5), .val (.int k), .val (.int av), .val (.int p0), .val (.int p1), .val (.int p2), .val (.int xt), .val (.int lst), .val (.int dm), .val (.double v0), .second, .val (.double v1), .second, .val (.double v2), .second, .val (.double jk), .second, .unset, .val (.ref ps), .unset] [(.double jk), (.int (0 : Int32)), (.ref vs), (.ref vs)])) rfl rfl (hb hby at_166)
      have N252 := Fr.snoc X252 N246 g_vs
      have G252_ps := G249_ps.other W252 ne_ps_vs
      have G252_vs := G_vs.set W252
      have Z252 : n0 ≤ h252.size := Nat.le_trans Z249 (Nat.le_of_eq W252.size.symm)
      have r253 : Steps p.tables e below S0 (T252.setTop (mkF m 167 #[.val (.int q1), .val (.int q2), .val (.int q3), .val (.int q4), .val (.int q5), .val (.int k), .val (.int av), .val (.int p0), .val (.int p1), .val (.int p2), .val (.int xt), .val (.int lst), .val (.int dm), .val (.double v0), .second, .val (.double v1), .second, .val (.double v2), .second, .val (.double jk), .second, .unset, .val (.ref ps), .unset] [(.ref vs)])) := r251.trans (st252 _ (Steps.refl _))
      have r254 : Steps p.tables e below S0 (T252.setTop (mkF m 171 #[.val (.int q1), .val (.int q2), .val (.int q3), .val (.int q4), .val (.int q5), .val (.int k), .val (.int av), .val (.int p0), .val (.int p1), .val (.int p2), .val (.int xt), .val (.int lst), .val (.int dm), .val (.double v0), .second, .val (.double v1), .second, .val (.double v2), .second, .val (.double jk), .second, .unset, .val (.ref ps), .unset] [(.double v0), (.int (1 : Int32)), (.ref vs), (.ref vs)])) := by
        refine r253.trans ?_
        show Steps p.tables e below (T252.setTop (mkF m 167 #[.val (.int q1), .val (.int q2), .val (.int q3), .val (.int q4), .val (.int q5), .val (.int k), .val (.int av), .val (.int p0), .val (.int p1), .val (.int p2), .val (.int xt), .val (.int lst), .val (.int dm), .val (.double v0), .second, .val (.double v1), .second, .val (.double v2), .second, .val (.double jk), .second, .unset, .val (.ref ps), .unset] [(.ref vs)])) _
        refine XS.dup X252.here hx rfl (hb hby at_167) rfl rfl ?_
        show Steps p.tables e below (T252.setTop (mkF m 168 #[.val (.int q1), .val (.int q2), .val (.int q3), .val (.int q4), .val (.int q5), .val (.int k), .val (.int av), .val (.int p0), .val (.int p1), .val (.int p2), .val (.int xt), .val (.int lst), .val (.int dm), .val (.double v0), .second, .val (.double v1), .second, .val (.double v2), .second, .val (.double jk), .second, .unset, .val (.ref ps), .unset] [(.ref vs), (.ref vs)])) _
        refine XS.iconst X252.here hx rfl (hb hby at_168) ?_
        show Steps p.tables e below (T252.setTop (mkF m 169 #[.val (.int q1), .val (.int q2), .val (.int q3), .val (.int q4), .val (.int q5), .val (.int k), .val (.int av), .val (.int p0), .val (.int p1), .val (.int p2), .val (.int xt), .val (.int lst), .val (.int dm), .val (.double v0), .second, .val (.double v1), .second, .val (.double v2), .second, .val (.double jk), .second, .unset, .val (.ref ps), .unset] [(.int (1 : Int32)), (.ref vs), (.ref vs)])) _
        refine XS.dload X252.here hx rfl (hb hby at_169) rfl ?_
        exact Steps.refl _
      obtain ⟨T255, h255, X255, e255, W255, st255⟩ := stDG X252 hx hZ e252 G252_vs (j := (1 : Int32)) (by decide) (by decide) (g := (mkF m 171 #[.val (.int q1), .val (.int q2), .val (.int q3), .val (.int q4), .val (.int q5), .val (.int k), .val (.int av), .val (.int p0), .val (.int p1), .val (.int p2), .val (.int xt), .val (.int lst), .val (.int dm), .val (.double v0), .second, .val (.double v1), .second, .val (.double v2), .second, .val (.double jk), .second, .unset, .val (.ref ps), .unset] [(.double v0), (.int (1 : Int32)), (.ref vs), (.ref vs)])) rfl rfl (hb hby at_171)
      have N255 := Fr.snoc X255 N252 g_vs
      have G255_ps := G252_ps.other W255 ne_ps_vs
      have G255_vs := G252_vs.set W255
      have Z255 : n0 ≤ h255.size := Nat.le_trans Z252 (Nat.le_of_eq W255.size.symm)
      have r256 : Steps p.tables e below S0 (T255.setTop (mkF m 172 #[.val (.int q1), .val (.int q2), .val (.int q3), .val (.int q4), .val (.int q5), .val (.int k), .val (.int av), .val (.int p0), .val (.int p1), .val (.int p2), .val (.int xt), .val (.int lst), .val (.int dm), .val (.double v0), .second, .val (.double v1), .second, .val (.double v2), .second, .val (.double jk), .second, .unset, .val (.ref ps), .unset] [(.ref vs)])) := r254.trans (st255 _ (Steps.refl _))
      have r257 : Steps p.tables e below S0 (T255.setTop (mkF m 176 #[.val (.int q1), .val (.int q2), .val (.int q3), .val (.int q4), .val (.int q5), .val (.int k), .val (.int av), .val (.int p0), .val (.int p1), .val (.int p2), .val (.int xt), .val (.int lst), .val (.int dm), .val (.double v0), .second, .val (.double v1), .second, .val (.double v2), .second, .val (.double jk), .second, .unset, .val (.ref ps), .unset] [(.double v1), (.int (2 : Int32)), (.ref vs), (.ref vs)])) := by
        refine r256.trans ?_
        show Steps p.tables e below (T255.setTop (mkF m 172 #[.val (.int q1), .val (.int q2), .val (.int q3), .val (.int q4), .val (.int q5), .val (.int k), .val (.int av), .val (.int p0), .val (.int p1), .val (.int p2), .val (.int xt), .val (.int lst), .val (.int dm), .val (.double v0), .second, .val (.double v1), .second, .val (.double v2), .second, .val (.double jk), .second, .unset, .val (.ref ps), .unset] [(.ref vs)])) _
        refine XS.dup X255.here hx rfl (hb hby at_172) rfl rfl ?_
        show Steps p.tables e below (T255.setTop (mkF m 173 #[.val (.int q1), .val (.int q2), .val (.int q3), .val (.int q4), .val (.int q5), .val (.int k), .val (.int av), .val (.int p0), .val (.int p1), .val (.int p2), .val (.int xt), .val (.int lst), .val (.int dm), .val (.double v0), .second, .val (.double v1), .second, .val (.double v2), .second, .val (.double jk), .second, .unset, .val (.ref ps), .unset] [(.ref vs), (.ref vs)])) _
        refine XS.iconst X255.here hx rfl (hb hby at_173) ?_
        show Steps p.tables e below (T255.setTop (mkF m 174 #[.val (.int q1), .val (.int q2), .val (.int q3), .val (.int q4), .val (.int q5), .val (.int k), .val (.int av), .val (.int p0), .val (.int p1), .val (.int p2), .val (.int xt), .val (.int lst), .val (.int dm), .val (.double v0), .second, .val (.double v1), .second, .val (.double v2), .second, .val (.double jk), .second, .unset, .val (.ref ps), .unset] [(.int (2 : Int32)), (.ref vs), (.ref vs)])) _
        refine XS.dload X255.here hx rfl (hb hby at_174) rfl ?_
        exact Steps.refl _
      obtain ⟨T258, h258, X258, e258, W258, st258⟩ := stDG X255 hx hZ e255 G255_vs (j := (2 : Int32)) (by decide) (by decide) (g := (mkF m 176 #[.val (.int q1), .val (.int q2), .val (.int q3), .val (.int q4), .val (.int q5), .val (.int k), .val (.int av), .val (.int p0), .val (.int p1), .val (.int p2), .val (.int xt), .val (.int lst), .val (.int dm), .val (.double v0), .second, .val (.double v1), .second, .val (.double v2), .second, .val (.double jk), .second, .unset, .val (.ref ps), .unset] [(.double v1), (.int (2 : Int32)), (.ref vs), (.ref vs)])) rfl rfl (hb hby at_176)
      have N258 := Fr.snoc X258 N255 g_vs
      have G258_ps := G255_ps.other W258 ne_ps_vs
      have G258_vs := G255_vs.set W258
      have Z258 : n0 ≤ h258.size := Nat.le_trans Z255 (Nat.le_of_eq W258.size.symm)
      have r259 : Steps p.tables e below S0 (T258.setTop (mkF m 177 #[.val (.int q1), .val (.int q2), .val (.int q3), .val (.int q4), .val (.int q5), .val (.int k), .val (.int av), .val (.int p0), .val (.int p1), .val (.int p2), .val (.int xt), .val (.int lst), .val (.int dm), .val (.double v0), .second, .val (.double v1), .second, .val (.double v2), .second, .val (.double jk), .second, .unset, .val (.ref ps), .unset] [(.ref vs)])) := r257.trans (st258 _ (Steps.refl _))
      have r260 : Steps p.tables e below S0 (T258.setTop (mkF m 181 #[.val (.int q1), .val (.int q2), .val (.int q3), .val (.int q4), .val (.int q5), .val (.int k), .val (.int av), .val (.int p0), .val (.int p1), .val (.int p2), .val (.int xt), .val (.int lst), .val (.int dm), .val (.double v0), .second, .val (.double v1), .second, .val (.double v2), .second, .val (.double jk), .second, .unset, .val (.ref ps), .unset] [(.double v2), (.int (3 : Int32)), (.ref vs), (.ref vs)])) := by
        refine r259.trans ?_
        show Steps p.tables e below (T258.setTop (mkF m 177 #[.val (.int q1), .val (.int q2), .val (.int q3), .val (.int q4), .val (.int q5), .val (.int k), .val (.int av), .val (.int p0), .val (.int p1), .val (.int p2), .val (.int xt), .val (.int lst), .val (.int dm), .val (.double v0), .second, .val (.double v1), .second, .val (.double v2), .second, .val (.double jk), .second, .unset, .val (.ref ps), .unset] [(.ref vs)])) _
        refine XS.dup X258.here hx rfl (hb hby at_177) rfl rfl ?_
        show Steps p.tables e below (T258.setTop (mkF m 178 #[.val (.int q1), .val (.int q2), .val (.int q3), .val (.int q4), .val (.int q5), .val (.int k), .val (.int av), .val (.int p0), .val (.int p1), .val (.int p2), .val (.int xt), .val (.int lst), .val (.int dm), .val (.double v0), .second, .val (.double v1), .second, .val (.double v2), .second, .val (.double jk), .second, .unset, .val (.ref ps), .unset] [(.ref vs), (.ref vs)])) _
        refine XS.iconst X258.here hx rfl (hb hby at_178) ?_
        show Steps p.tables e below (T258.setTop (mkF m 179 #[.val (.int q1), .val (.int q2), .val (.int q3), .val (.int q4), .val (.int q5), .val (.int k), .val (.int av), .val (.int p0), .val (.int p1), .val (.int p2), .val (.int xt), .val (.int lst), .val (.int dm), .val (.double v0), .second, .val (.double v1), .second, .val (.double v2), .second, .val (.double jk), .second, .unset, .val (.ref ps), .unset] [(.int (3 : Int32)), (.ref vs), (.ref vs)])) _
        refine XS.dload X258.here hx rfl (hb hby at_179) rfl ?_
        exact Steps.refl _
      obtain ⟨T261, h261, X261, e261, W261, st261⟩ := stDG X258 hx hZ e258 G258_vs (j := (3 : Int32)) (by decide) (by decide) (g := (mkF m 181 #[.val (.int q1), .val (.int q2), .val (.int q3), .val (.int q4), .val (.int q5), .val (.int k), .val (.int av), .val (.int p0), .val (.int p1), .val (.int p2), .val (.int xt), .val (.int lst), .val (.int dm), .val (.double v0), .second, .val (.double v1), .second, .val (.double v2), .second, .val (.double jk), .second, .unset, .val (.ref ps), .unset] [(.double v2), (.int (3 : Int32)), (.ref vs), (.ref vs)])) rfl rfl (hb hby at_181)
      have N261 := Fr.snoc X261 N258 g_vs
      have G261_ps := G258_ps.other W261 ne_ps_vs
      have G261_vs := G258_vs.set W261
      have Z261 : n0 ≤ h261.size := Nat.le_trans Z258 (Nat.le_of_eq W261.size.symm)
      have r262 : Steps p.tables e below S0 (T261.setTop (mkF m 182 #[.val (.int q1), .val (.int q2), .val (.int q3), .val (.int q4), .val (.int q5), .val (.int k), .val (.int av), .val (.int p0), .val (.int p1), .val (.int p2), .val (.int xt), .val (.int lst), .val (.int dm), .val (.double v0), .second, .val (.double v1), .second, .val (.double v2), .second, .val (.double jk), .second, .unset, .val (.ref ps), .unset] [(.ref vs)])) := r260.trans (st261 _ (Steps.refl _))
      have r263 : Steps p.tables e below S0 (T261.setTop (mkF m 186 #[.val (.int q1), .val (.int q2), .val (.int q3), .val (.int q4), .val (.int q5), .val (.int k), .val (.int av), .val (.int p0), .val (.int p1), .val (.int p2), .val (.int xt), .val (.int lst), .val (.int dm), .val (.double v0), .second, .val (.double v1), .second, .val (.double v2), .second, .val (.double jk), .second, .unset, .val (.ref ps), .unset] [(.double jk), (.int (4 : Int32)), (.ref vs), (.ref vs)])) := by
        refine r262.trans ?_
        show Steps p.tables e below (T261.setTop (mkF m 182 #[.val (.int q1), .val (.int q2), .val (.int q3), .val (.int q4), .val (.int q5), .val (.int k), .val (.int av), .val (.int p0), .val (.int p1), .val (.int p2), .val (.int xt), .val (.int lst), .val (.int dm), .val (.double v0), .second, .val (.double v1), .second, .val (.double v2), .second, .val (.double jk), .second, .unset, .val (.ref ps), .unset] [(.ref vs)])) _
        refine XS.dup X261.here hx rfl (hb hby at_182) rfl rfl ?_
        show Steps p.tables e below (T261.setTop (mkF m 183 #[.val (.int q1), .val (.int q2), .val (.int q3), .val (.int q4), .val (.int q5), .val (.int k), .val (.int av), .val (.int p0), .val (.int p1), .val (.int p2), .val (.int xt), .val (.int lst), .val (.int dm), .val (.double v0), .second, .val (.double v1), .second, .val (.double v2), .second, .val (.double jk), .second, .unset, .val (.ref ps), .unset] [(.ref vs), (.ref vs)])) _
        refine XS.iconst X261.here hx rfl (hb hby at_183) ?_
        show Steps p.tables e below (T261.setTop (mkF m 184 #[.val (.int q1), .val (.int q2), .val (.int q3), .val (.int q4), .val (.int q5), .val (.int k), .val (.int av), .val (.int p0), .val (.int p1), .val (.int p2), .val (.int xt), .val (.int lst), .val (.int dm), .val (.double v0), .second, .val (.double v1), .second, .val (.double v2), .second, .val (.double jk), .second, .unset, .val (.ref ps), .unset] [(.int (4 : Int32)), (.ref vs), (.ref vs)])) _
        refine XS.dload X261.here hx rfl (hb hby at_184) rfl ?_
        exact Steps.refl _
      obtain ⟨T264, h264, X264, e264, W264, st264⟩ := stDG X261 hx hZ e261 G261_vs (j := (4 : Int32)) (by decide) (by decide) (g := (mkF m 186 #[.val (.int q1), .val (.int q2), .val (.int q3), .val (.int q4), .val (.int q5), .val (.int k), .val (.int av), .val (.int p0), .val (.int p1), .val (.int p2), .val (.int xt), .val (.int lst), .val (.int dm), .val (.double v0), .second, .val (.double v1), .second, .val (.double v2), .second, .val (.double jk), .second, .unset, .val (.ref ps), .unset] [(.double jk), (.int (4 : Int32)), (.ref vs), (.ref vs)])) rfl rfl (hb hby at_186)
      have N264 := Fr.snoc X264 N261 g_vs
      have G264_ps := G261_ps.other W264 ne_ps_vs
      have G264_vs := G261_vs.set W264
      have Z264 : n0 ≤ h264.size := Nat.le_trans Z261 (Nat.le_of_eq W264.size.symm)
      have r265 : Steps p.tables e below S0 (T264.setTop (mkF m 187 #[.val (.int q1), .val (.int q2), .val (.int q3), .val (.int q4), .val (.int q5), .val (.int k), .val (.int av), .val (.int p0), .val (.int p1), .val (.int p2), .val (.int xt), .val (.int lst), .val (.int dm), .val (.double v0), .second, .val (.double v1), .second, .val (.double v2), .second, .val (.double jk), .second, .unset, .val (.ref ps), .unset] [(.ref vs)])) := r263.trans (st264 _ (Steps.refl _))
      have GP : Gar Z h264 ps .int 5 (fun i => .int (own_p5 p0 p1 p2 i)) := (G264_ps.len (by decide)).congr (fun i hi => by
          have hi2 : i = 0 ∨ i = 1 ∨ i = 2 ∨ i = 3 ∨ i = 4 := by omega
          rcases hi2 with rfl | rfl | rfl | rfl | rfl <;> rfl)
      have GV : Gar Z h264 vs .double 5 (fun i => .double (own_v5 v0 v1 v2 jk i)) := (G264_vs.len (by decide)).congr (fun i hi => by
          have hi2 : i = 0 ∨ i = 1 ∨ i = 2 ∨ i = 3 ∨ i = 4 := by omega
          rcases hi2 with rfl | rfl | rfl | rfl | rfl <;> rfl)
      have r266 : Steps p.tables e below S0 (T264.setTop (mkF m 200 #[.val (.int q1), .val (.int q2), .val (.int q3), .val (.int q4), .val (.int q5), .val (.int k), .val (.int av), .val (.int p0), .val (.int p1), .val (.int p2), .val (.int xt), .val (.int lst), .val (.int dm), .val (.double v0), .second, .val (.double v1), .second, .val (.double v2), .second, .val (.double jk), .second, .unset, .val (.ref ps), .val (.ref vs)] [(.int ((1 : Int32) + k)), (.int (1 : Int32)), (.ref vs), (.ref ps), (.int dm)])) := by
        refine r265.trans ?_
        show Steps p.tables e below (T264.setTop (mkF m 187 #[.val (.int q1), .val (.int q2), .val (.int q3), .val (.int q4), .val (.int q5), .val (.int k), .val (.int av), .val (.int p0), .val (.int p1), .val (.int p2), .val (.int xt), .val (.int lst), .val (.int dm), .val (.double v0), .second, .val (.double v1), .second, .val (.double v2), .second, .val (.double jk), .second, .unset, .val (.ref ps), .unset] [(.ref vs)])) _
        refine XS.astore X264.here hx rfl (hb hby at_187) rfl rfl (l' := #[.val (.int q1), .val (.int q2), .val (.int q3), .val (.int q4), .val (.int q5), .val (.int k), .val (.int av), .val (.int p0), .val (.int p1), .val (.int p2), .val (.int xt), .val (.int lst), .val (.int dm), .val (.double v0), .second, .val (.double v1), .second, .val (.double v2), .second, .val (.double jk), .second, .unset, .val (.ref ps), .val (.ref vs)]) rfl ?_
        show Steps p.tables e below (T264.setTop (mkF m 189 #[.val (.int q1), .val (.int q2), .val (.int q3), .val (.int q4), .val (.int q5), .val (.int k), .val (.int av), .val (.int p0), .val (.int p1), .val (.int p2), .val (.int xt), .val (.int lst), .val (.int dm), .val (.double v0), .second, .val (.double v1), .second, .val (.double v2), .second, .val (.double jk), .second, .unset, .val (.ref ps), .val (.ref vs)] [])) _
        refine XS.iload X264.here hx rfl (hb hby at_189) rfl ?_
        show Steps p.tables e below (T264.setTop (mkF m 191 #[.val (.int q1), .val (.int q2), .val (.int q3), .val (.int q4), .val (.int q5), .val (.int k), .val (.int av), .val (.int p0), .val (.int p1), .val (.int p2), .val (.int xt), .val (.int lst), .val (.int dm), .val (.double v0), .second, .val (.double v1), .second, .val (.double v2), .second, .val (.double jk), .second, .unset, .val (.ref ps), .val (.ref vs)] [(.int dm)])) _
        refine XS.aload X264.here hx rfl (hb hby at_191) rfl rfl ?_
        show Steps p.tables e below (T264.setTop (mkF m 193 #[.val (.int q1), .val (.int q2), .val (.int q3), .val (.int q4), .val (.int q5), .val (.int k), .val (.int av), .val (.int p0), .val (.int p1), .val (.int p2), .val (.int xt), .val (.int lst), .val (.int dm), .val (.double v0), .second, .val (.double v1), .second, .val (.double v2), .second, .val (.double jk), .second, .unset, .val (.ref ps), .val (.ref vs)] [(.ref ps), (.int dm)])) _
        refine XS.aload X264.here hx rfl (hb hby at_193) rfl rfl ?_
        show Steps p.tables e below (T264.setTop (mkF m 195 #[.val (.int q1), .val (.int q2), .val (.int q3), .val (.int q4), .val (.int q5), .val (.int k), .val (.int av), .val (.int p0), .val (.int p1), .val (.int p2), .val (.int xt), .val (.int lst), .val (.int dm), .val (.double v0), .second, .val (.double v1), .second, .val (.double v2), .second, .val (.double jk), .second, .unset, .val (.ref ps), .val (.ref vs)] [(.ref vs), (.ref ps), (.int dm)])) _
        refine XS.iconst X264.here hx rfl (hb hby at_195) ?_
        show Steps p.tables e below (T264.setTop (mkF m 196 #[.val (.int q1), .val (.int q2), .val (.int q3), .val (.int q4), .val (.int q5), .val (.int k), .val (.int av), .val (.int p0), .val (.int p1), .val (.int p2), .val (.int xt), .val (.int lst), .val (.int dm), .val (.double v0), .second, .val (.double v1), .second, .val (.double v2), .second, .val (.double jk), .second, .unset, .val (.ref ps), .val (.ref vs)] [(.int (1 : Int32)), (.ref vs), (.ref ps), (.int dm)])) _
        refine XS.iconst X264.here hx rfl (hb hby at_196) ?_
        show Steps p.tables e below (T264.setTop (mkF m 197 #[.val (.int q1), .val (.int q2), .val (.int q3), .val (.int q4), .val (.int q5), .val (.int k), .val (.int av), .val (.int p0), .val (.int p1), .val (.int p2), .val (.int xt), .val (.int lst), .val (.int dm), .val (.double v0), .second, .val (.double v1), .second, .val (.double v2), .second, .val (.double jk), .second, .unset, .val (.ref ps), .val (.ref vs)] [(.int (1 : Int32)), (.int (1 : Int32)), (.ref vs), (.ref ps), (.int dm)])) _
        refine XS.iload X264.here hx rfl (hb hby at_197) rfl ?_
        show Steps p.tables e below (T264.setTop (mkF m 199 #[.val (.int q1), .val (.int q2), .val (.int q3), .val (.int q4), .val (.int q5), .val (.int k), .val (.int av), .val (.int p0), .val (.int p1), .val (.int p2), .val (.int xt), .val (.int lst), .val (.int dm), .val (.double v0), .second, .val (.double v1), .second, .val (.double v2), .second, .val (.double jk), .second, .unset, .val (.ref ps), .val (.ref vs)] [(.int k), (.int (1 : Int32)), (.int (1 : Int32)), (.ref vs), (.ref ps), (.int dm)])) _
        refine XS.iadd X264.here hx rfl (hb hby at_199) rfl ?_
        exact Steps.refl _
      obtain ⟨_, _, ⟨T267, L267, k267, n267⟩, -, X267, ⟨Lc267, hQ267, l267, y267, z267⟩, st267⟩ := Jvm.LawKit.callS X264 hx (y := (⟨"com/example/polytome/polytome/model/SparseVector", "view", "(I[I[DII)Lcom/example/polytome/polytome/model/SparseVector;"⟩ : MethodName)) hown (mvT hZ (hw _ (List.mem_of_getElem? (i := 51) rfl))) (mvT hZ (hw _ (List.mem_of_getElem? (i := 52) rfl))) (mvT hZ (hw _ (List.mem_of_getElem? (i := 2) rfl))) (mvT hZ (hw _ (List.mem_of_getElem? (i := 53) rfl))) (by decide) (backOf (W := 0) (rmW l Z a0 hw [] dm ps vs (1 : Int32) ((1 : Int32) + k) h264 n0 Z264) hZ (hw _ (List.mem_of_getElem? (i := 53) rfl)) (hw _ (List.mem_of_getElem? (i := 2) rfl)) (by decide) (by decide)) (g := (mkF m 200 #[.val (.int q1), .val (.int q2), .val (.int q3), .val (.int q4), .val (.int q5), .val (.int k), .val (.int av), .val (.int p0), .val (.int p1), .val (.int p2), .val (.int xt), .val (.int lst), .val (.int dm), .val (.double v0), .second, .val (.double v1), .second, .val (.double v2), .second, .val (.double jk), .second, .unset, .val (.ref ps), .val (.ref vs)] [(.int ((1 : Int32) + k)), (.int (1 : Int32)), (.ref vs), (.ref ps), (.int dm)])) rfl (by rw [hml]; rfl) (argsL := [(.int dm), (.ref ps), (.ref vs), (.int (1 : Int32)), (.int ((1 : Int32) + k))]) (rest := []) (lenOf pd_4 rfl) rfl (by show 2 * 0 + _ ≤ _; exact Nat.le_of_eq rfl) (hb hby at_200) (fun _ _ => ⟨rfl, e264, (by decide : ((0 + 1) + 1) + 1 ≤ _), (by decide : ((0 + 5) + 5) + 5 ≤ _)⟩)
      dsimp only [Pt.U, Pt.locs, Pt.cells, Pt.slots] at X267 l267 y267 z267 st267 hQ267
      subst l267 y267 z267
      obtain ⟨sv, rfl, hSV, Kc267, ZZ, Nq267⟩ := hQ267
      have N267 := Fr.app N264 Nq267
      have r268 : Steps p.tables e below S0 (T267.setTop (mkF m 203 #[.val (.int q1), .val (.int q2), .val (.int q3), .val (.int q4), .val (.int q5), .val (.int k), .val (.int av), .val (.int p0), .val (.int p1), .val (.int p2), .val (.int xt), .val (.int lst), .val (.int dm), .val (.double v0), .second, .val (.double v1), .second, .val (.double v2), .second, .val (.double jk), .second, .unset, .val (.ref ps), .val (.ref vs)] [(.ref sv)])) := r266.trans (st267 _ (Steps.refl _))
      have G267_ps := GP.keep Kc267 nin0
      have G267_vs := GV.keep Kc267 nin0
      have Z267 : n0 ≤ T267.heap.size := Nat.le_trans Z264 Kc267.1
      rcases hk4 with z | z | z | z
      · skip
        have hl : lst.toInt = 0 := by rcases hlst with ⟨y, h_⟩ | ⟨y, h_⟩ | ⟨y, h_⟩ | ⟨y, h_⟩ <;> first | exact h_ | exact absurd (z.symm.trans y) (by decide)
        have hrng : ∀ i : Nat, (1 : Int32).toInt ≤ (i : Int) → (i : Int) < ((1 : Int32) + k).toInt → 0 ≤ ((own_p5 p0 p1 p2) i).toInt ∧ ((own_p5 p0 p1 p2) i).toInt < dm.toInt := by
          intro i h1 h2
          rw [show (1 : Int32).toInt = 1 by first | decide | (rw [z]; decide)] at h1
          rw [show ((1 : Int32) + k).toInt = 1 by first | decide | (rw [z]; decide)] at h2
          omega
        have r269 : Steps p.tables e below S0 (T267.setTop (mkF m 364 #[.val (.int q1), .val (.int q2), .val (.int q3), .val (.int q4), .val (.int q5), .val (.int k), .val (.int av), .val (.int p0), .val (.int p1), .val (.int p2), .val (.int xt), .val (.int lst), .val (.int dm), .val (.double v0), .second, .val (.double v1), .second, .val (.double v2), .second, .val (.double jk), .second, .val (.ref sv), .val (.ref ps), .val (.ref vs)] [(.ref sv)])) := by
          refine r268.trans ?_
          show Steps p.tables e below (T267.setTop (mkF m 203 #[.val (.int q1), .val (.int q2), .val (.int q3), .val (.int q4), .val (.int q5), .val (.int k), .val (.int av), .val (.int p0), .val (.int p1), .val (.int p2), .val (.int xt), .val (.int lst), .val (.int dm), .val (.double v0), .second, .val (.double v1), .second, .val (.double v2), .second, .val (.double jk), .second, .unset, .val (.ref ps), .val (.ref vs)] [(.ref sv)])) _
          refine XS.astore X267.here hx rfl (hb hby at_203) rfl rfl (l' := #[.val (.int q1), .val (.int q2), .val (.int q3), .val (.int q4), .val (.int q5), .val (.int k), .val (.int av), .val (.int p0), .val (.int p1), .val (.int p2), .val (.int xt), .val (.int lst), .val (.int dm), .val (.double v0), .second, .val (.double v1), .second, .val (.double v2), .second, .val (.double jk), .second, .val (.ref sv), .val (.ref ps), .val (.ref vs)]) rfl ?_
          show Steps p.tables e below (T267.setTop (mkF m 205 #[.val (.int q1), .val (.int q2), .val (.int q3), .val (.int q4), .val (.int q5), .val (.int k), .val (.int av), .val (.int p0), .val (.int p1), .val (.int p2), .val (.int xt), .val (.int lst), .val (.int dm), .val (.double v0), .second, .val (.double v1), .second, .val (.double v2), .second, .val (.double jk), .second, .val (.ref sv), .val (.ref ps), .val (.ref vs)] [])) _
          refine XS.goto X267.here hx rfl (pc0 := 205) (pc' := 362) rfl (hb hby at_205) (by decide) (by decide) ?_
          show Steps p.tables e below (T267.setTop (mkF m 362 #[.val (.int q1), .val (.int q2), .val (.int q3), .val (.int q4), .val (.int q5), .val (.int k), .val (.int av), .val (.int p0), .val (.int p1), .val (.int p2), .val (.int xt), .val (.int lst), .val (.int dm), .val (.double v0), .second, .val (.double v1), .second, .val (.double v2), .second, .val (.double jk), .second, .val (.ref sv), .val (.ref ps), .val (.ref vs)] [])) _
          refine XS.aload X267.here hx rfl (hb hby at_362) rfl rfl ?_
          exact Steps.refl _
        obtain ⟨cq270, kq270, q270a, q270b, q270c⟩ := isOf hZ rfl hSV.1
        obtain ⟨_, _, ⟨T270, L270, k270, n270⟩, -, X270, ⟨Lc270, hQ270, l270, y270, z270⟩, st270⟩ := X267.virtualBack hx (y := (⟨"com/example/polytome/polytome/model/SparseVector", "toArray", "()[D"⟩ : MethodName)) (z := (⟨"com/example/polytome/polytome/model/SparseVector", "toArray", "()[D"⟩ : MethodName)) hown (mvT hZ (hw _ (List.mem_of_getElem? (i := 39) rfl))) (mvT hZ (hw _ (List.mem_of_getElem? (i := 40) rfl))) (notFace_of_selects (args := #[]) (mvT hZ (hw _ (List.mem_of_getElem? (i := 42) rfl)))) (mvT hZ (hw _ (List.mem_of_getElem? (i := 42) rfl))) (mvT hZ (hw _ (List.mem_of_getElem? (i := 41) rfl))) (by decide) (backOf (W := 0) (rmT l Z a0 hw [] sv dm ps vs (1 : Int32) ((1 : Int32) + k) 5 (own_p5 p0 p1 p2) (own_v5 v0 v1 v2 jk) T267.heap n0 Z267 hSV G267_ps G267_vs bdm ⟨by first | decide | (rw [z]; decide), by first | decide | (rw [z]; decide), by first | decide | (rw [z]; decide)⟩ hrng) hZ (hw _ (List.mem_of_getElem? (i := 43) rfl)) (hw _ (List.mem_of_getElem? (i := 2) rfl)) (by decide) (by decide)) q270a q270c (g := (mkF m 364 #[.val (.int q1), .val (.int q2), .val (.int q3), .val (.int q4), .val (.int q5), .val (.int k), .val (.int av), .val (.int p0), .val (.int p1), .val (.int p2), .val (.int xt), .val (.int lst), .val (.int dm), .val (.double v0), .second, .val (.double v1), .second, .val (.double v2), .second, .val (.double jk), .second, .val (.ref sv), .val (.ref ps), .val (.ref vs)] [(.ref sv)])) rfl (by rw [hml]; rfl) (Steps.refl _) (argsL := []) (rest := []) (lenOf pd_3 rfl) rfl (by show 2 * 0 + _ ≤ _; exact Nat.le_of_eq rfl) (hb hby at_364) (fun _ _ => ⟨rfl, rfl, (by decide : (((0 + 1) + 1) + 1) + 1 ≤ _), (by decide : (((0 + 5) + 5) + 5) + 15 ≤ _)⟩)
        dsimp only [Pt.U, Pt.locs, Pt.cells, Pt.slots] at X270 l270 y270 z270 st270 hQ270
        subst l270 y270 z270
        obtain ⟨c1, rfl, sc1, Gc1_, Kc270, Nq270⟩ := hQ270
        have N270 := Fr.app N267 Nq270
        have r271 : Steps p.tables e below S0 (T270.setTop (mkF m 367 #[.val (.int q1), .val (.int q2), .val (.int q3), .val (.int q4), .val (.int q5), .val (.int k), .val (.int av), .val (.int p0), .val (.int p1), .val (.int p2), .val (.int xt), .val (.int lst), .val (.int dm), .val (.double v0), .second, .val (.double v1), .second, .val (.double v2), .second, .val (.double jk), .second, .val (.ref sv), .val (.ref ps), .val (.ref vs)] [(.ref c1)])) := r269.trans st270
        have G270_ps := G267_ps.keep Kc270 nin0
        have G270_vs := G267_vs.keep Kc270 nin0
        have E270_sv_ := hSV.1.keep Kc270
        have E270_sv := hSV.1.keep Kc270
        have Z270 : n0 ≤ T270.heap.size := Nat.le_trans Z267 Kc270.1
        have hSVc1 := own_svkeep hSV Kc270
        have G1_ : Gar Z T270.heap c1 .double dm.toNatClampNeg (fun i => .double (own_c k p0 p1 p2 v0 v1 v2 i)) := Gc1_.congr (fun i _ => by
            rw [show (((1 : Int32) + k).toInt - (1 : Int32).toInt).toNat = 0 by first | decide | (rw [z]; decide), show (1 : Int32).toNatClampNeg = 1 by first | decide | (rw [z]; decide), z]
            rfl)
        have r272 : Steps p.tables e below S0 (T270.setTop (mkF m 371 #[.val (.int q1), .val (.int q2), .val (.int q3), .val (.int q4), .val (.int q5), .val (.int k), .val (.int av), .val (.int p0), .val (.int p1), .val (.int p2), .val (.int xt), .val (.int lst), .val (.int dm), .val (.double v0), .second, .val (.double v1), .second, .val (.double v2), .second, .val (.double jk), .second, .val (.ref sv), .val (.ref c1), .val (.ref vs)] [(.ref sv)])) := by
          refine r271.trans ?_
          show Steps p.tables e below (T270.setTop (mkF m 367 #[.val (.int q1), .val (.int q2), .val (.int q3), .val (.int q4), .val (.int q5), .val (.int k), .val (.int av), .val (.int p0), .val (.int p1), .val (.int p2), .val (.int xt), .val (.int lst), .val (.int dm), .val (.double v0), .second, .val (.double v1), .second, .val (.double v2), .second, .val (.double jk), .second, .val (.ref sv), .val (.ref ps), .val (.ref vs)] [(.ref c1)])) _
          refine XS.astore X270.here hx rfl (hb hby at_367) rfl rfl (l' := #[.val (.int q1), .val (.int q2), .val (.int q3), .val (.int q4), .val (.int q5), .val (.int k), .val (.int av), .val (.int p0), .val (.int p1), .val (.int p2), .val (.int xt), .val (.int lst), .val (.int dm), .val (.double v0), .second, .val (.double v1), .second, .val (.double v2), .second, .val (.double jk), .second, .val (.ref sv), .val (.ref c1), .val (.ref vs)]) rfl ?_
          show Steps p.tables e below (T270.setTop (mkF m 369 #[.val (.int q1), .val (.int q2), .val (.int q3), .val (.int q4), .val (.int q5), .val (.int k), .val (.int av), .val (.int p0), .val (.int p1), .val (.int p2), .val (.int xt), .val (.int lst), .val (.int dm), .val (.double v0), .second, .val (.double v1), .second, .val (.double v2), .second, .val (.double jk), .second, .val (.ref sv), .val (.ref c1), .val (.ref vs)] [])) _
          refine XS.aload X270.here hx rfl (hb hby at_369) rfl rfl ?_
          exact Steps.refl _
        obtain ⟨cq273, kq273, q273a, q273b, q273c⟩ := isOf hZ rfl hSVc1.1
        obtain ⟨_, _, ⟨T273, L273, k273, n273⟩, -, X273, ⟨Lc273, hQ273, l273, y273, z273⟩, st273⟩ := X270.virtualBack hx (y := (⟨"com/example/polytome/polytome/model/SparseVector", "toArray", "()[D"⟩ : MethodName)) (z := (⟨"com/example/polytome/polytome/model/SparseVector", "toArray", "()[D"⟩ : MethodName)) hown (mvT hZ (hw _ (List.mem_of_getElem? (i := 39) rfl))) (mvT hZ (hw _ (List.mem_of_getElem? (i := 40) rfl))) (notFace_of_selects (args := #[]) (mvT hZ (hw _ (List.mem_of_getElem? (i := 42) rfl)))) (mvT hZ (hw _ (List.mem_of_getElem? (i := 42) rfl))) (mvT hZ (hw _ (List.mem_of_getElem? (i := 41) rfl))) (by decide) (backOf (W := 0) (rmT l Z a0 hw [] sv dm ps vs (1 : Int32) ((1 : Int32) + k) 5 (own_p5 p0 p1 p2) (own_v5 v0 v1 v2 jk) T270.heap n0 Z270 hSVc1 G270_ps G270_vs bdm ⟨by first | decide | (rw [z]; decide), by first | decide | (rw [z]; decide), by first | decide | (rw [z]; decide)⟩ hrng) hZ (hw _ (List.mem_of_getElem? (i := 43) rfl)) (hw _ (List.mem_of_getElem? (i := 2) rfl)) (by decide) (by decide)) q273a q273c (g := (mkF m 371 #[.val (.int q1), .val (.int q2), .val (.int q3), .val (.int q4), .val (.int q5), .val (.int k), .val (.int av), .val (.int p0), .val (.int p1), .val (.int p2), .val (.int xt), .val (.int lst), .val (.int dm), .val (.double v0), .second, .val (.double v1), .second, .val (.double v2), .second, .val (.double jk), .second, .val (.ref sv), .val (.ref c1), .val (.ref vs)] [(.ref sv)])) rfl (by rw [hml]; rfl) (Steps.refl _) (argsL := []) (rest := []) (lenOf pd_3 rfl) rfl (by show 2 * 0 + _ ≤ _; exact Nat.le_of_eq rfl) (hb hby at_371) (fun _ _ => ⟨rfl, rfl, (by decide : ((((0 + 1) + 1) + 1) + 1) + 1 ≤ _), (by decide : ((((0 + 5) + 5) + 5) + 15) + 15 ≤ _)⟩)
        dsimp only [Pt.U, Pt.locs, Pt.cells, Pt.slots] at X273 l273 y273 z273 st273 hQ273
        subst l273 y273 z273
        obtain ⟨c2, rfl, sc2, Gc2_, Kc273, Nq273⟩ := hQ273
        have N273 := Fr.app N270 Nq273
        have r274 : Steps p.tables e below S0 (T273.setTop (mkF m 374 #[.val (.int q1), .val (.int q2), .val (.int q3), .val (.int q4), .val (.int q5), .val (.int k), .val (.int av), .val (.int p0), .val (.int p1), .val (.int p2), .val (.int xt), .val (.int lst), .val (.int dm), .val (.double v0), .second, .val (.double v1), .second, .val (.double v2), .second, .val (.double jk), .second, .val (.ref sv), .val (.ref c1), .val (.ref vs)] [(.ref c2)])) := r272.trans st273
        have G273_ps := G270_ps.keep Kc273 nin0
        have G273_vs := G270_vs.keep Kc273 nin0
        have G273_c1 := G1_.keep Kc273 nin0
        have E273_sv_ := E270_sv_.keep Kc273
        have E273_sv := hSVc1.1.keep Kc273
        have Z273 : n0 ≤ T273.heap.size := Nat.le_trans Z270 Kc273.1
        have hSVc2 := own_svkeep hSVc1 Kc273
        have r275 : Steps p.tables e below S0 (T273.setTop (mkF m 376 #[.val (.int q1), .val (.int q2), .val (.int q3), .val (.int q4), .val (.int q5), .val (.int k), .val (.int av), .val (.int p0), .val (.int p1), .val (.int p2), .val (.int xt), .val (.int lst), .val (.int dm), .val (.double v0), .second, .val (.double v1), .second, .val (.double v2), .second, .val (.double jk), .second, .val (.ref sv), .val (.ref c1), .val (.ref c2)] [])) := by
          refine r274.trans ?_
          show Steps p.tables e below (T273.setTop (mkF m 374 #[.val (.int q1), .val (.int q2), .val (.int q3), .val (.int q4), .val (.int q5), .val (.int k), .val (.int av), .val (.int p0), .val (.int p1), .val (.int p2), .val (.int xt), .val (.int lst), .val (.int dm), .val (.double v0), .second, .val (.double v1), .second, .val (.double v2), .second, .val (.double jk), .second, .val (.ref sv), .val (.ref c1), .val (.ref vs)] [(.ref c2)])) _
          refine XS.astore X273.here hx rfl (hb hby at_374) rfl rfl (l' := #[.val (.int q1), .val (.int q2), .val (.int q3), .val (.int q4), .val (.int q5), .val (.int k), .val (.int av), .val (.int p0), .val (.int p1), .val (.int p2), .val (.int xt), .val (.int lst), .val (.int dm), .val (.double v0), .second, .val (.double v1), .second, .val (.double v2), .second, .val (.double jk), .second, .val (.ref sv), .val (.ref c1), .val (.ref c2)]) rfl ?_
          exact Steps.refl _
        have hne_ : c1 ≠ c2 := Nat.ne_of_lt (Nat.lt_of_lt_of_le G1_.lt sc2)
        exact ⟨_, _, _, sv, c1, c2, X273.more (by decide) (by decide), rfl, N273, Z273, hne_, G273_c1, r275⟩
      · skip
        have hl : lst.toInt = p0.toInt + 1 := by rcases hlst with ⟨y, h_⟩ | ⟨y, h_⟩ | ⟨y, h_⟩ | ⟨y, h_⟩ <;> first | exact h_ | exact absurd (z.symm.trans y) (by decide)
        have hrng : ∀ i : Nat, (1 : Int32).toInt ≤ (i : Int) → (i : Int) < ((1 : Int32) + k).toInt → 0 ≤ ((own_p5 p0 p1 p2) i).toInt ∧ ((own_p5 p0 p1 p2) i).toInt < dm.toInt := by
          intro i h1 h2
          rw [show (1 : Int32).toInt = 1 by first | decide | (rw [z]; decide)] at h1
          rw [show ((1 : Int32) + k).toInt = 2 by first | decide | (rw [z]; decide)] at h2
          have hi : i = 1 := by omega
          rcases hi with rfl
          · show 0 ≤ p0.toInt ∧ p0.toInt < dm.toInt; omega
        have r276 : Steps p.tables e below S0 (T267.setTop (mkF m 364 #[.val (.int q1), .val (.int q2), .val (.int q3), .val (.int q4), .val (.int q5), .val (.int k), .val (.int av), .val (.int p0), .val (.int p1), .val (.int p2), .val (.int xt), .val (.int lst), .val (.int dm), .val (.double v0), .second, .val (.double v1), .second, .val (.double v2), .second, .val (.double jk), .second, .val (.ref sv), .val (.ref ps), .val (.ref vs)] [(.ref sv)])) := by
          refine r268.trans ?_
          show Steps p.tables e below (T267.setTop (mkF m 203 #[.val (.int q1), .val (.int q2), .val (.int q3), .val (.int q4), .val (.int q5), .val (.int k), .val (.int av), .val (.int p0), .val (.int p1), .val (.int p2), .val (.int xt), .val (.int lst), .val (.int dm), .val (.double v0), .second, .val (.double v1), .second, .val (.double v2), .second, .val (.double jk), .second, .unset, .val (.ref ps), .val (.ref vs)] [(.ref sv)])) _
          refine XS.astore X267.here hx rfl (hb hby at_203) rfl rfl (l' := #[.val (.int q1), .val (.int q2), .val (.int q3), .val (.int q4), .val (.int q5), .val (.int k), .val (.int av), .val (.int p0), .val (.int p1), .val (.int p2), .val (.int xt), .val (.int lst), .val (.int dm), .val (.double v0), .second, .val (.double v1), .second, .val (.double v2), .second, .val (.double jk), .second, .val (.ref sv), .val (.ref ps), .val (.ref vs)]) rfl ?_
          show Steps p.tables e below (T267.setTop (mkF m 205 #[.val (.int q1), .val (.int q2), .val (.int q3), .val (.int q4), .val (.int q5), .val (.int k), .val (.int av), .val (.int p0), .val (.int p1), .val (.int p2), .val (.int xt), .val (.int lst), .val (.int dm), .val (.double v0), .second, .val (.double v1), .second, .val (.double v2), .second, .val (.double jk), .second, .val (.ref sv), .val (.ref ps), .val (.ref vs)] [])) _
          refine XS.goto X267.here hx rfl (pc0 := 205) (pc' := 362) rfl (hb hby at_205) (by decide) (by decide) ?_
          show Steps p.tables e below (T267.setTop (mkF m 362 #[.val (.int q1), .val (.int q2), .val (.int q3), .val (.int q4), .val (.int q5), .val (.int k), .val (.int av), .val (.int p0), .val (.int p1), .val (.int p2), .val (.int xt), .val (.int lst), .val (.int dm), .val (.double v0), .second, .val (.double v1), .second, .val (.double v2), .second, .val (.double jk), .second, .val (.ref sv), .val (.ref ps), .val (.ref vs)] [])) _
          refine XS.aload X267.here hx rfl (hb hby at_362) rfl rfl ?_
          exact Steps.refl _
        obtain ⟨cq277, kq277, q277a, q277b, q277c⟩ := isOf hZ rfl hSV.1
        obtain ⟨_, _, ⟨T277, L277, k277, n277⟩, -, X277, ⟨Lc277, hQ277, l277, y277, z277⟩, st277⟩ := X267.virtualBack hx (y := (⟨"com/example/polytome/polytome/model/SparseVector", "toArray", "()[D"⟩ : MethodName)) (z := (⟨"com/example/polytome/polytome/model/SparseVector", "toArray", "()[D"⟩ : MethodName)) hown (mvT hZ (hw _ (List.mem_of_getElem? (i := 39) rfl))) (mvT hZ (hw _ (List.mem_of_getElem? (i := 40) rfl))) (notFace_of_selects (args := #[]) (mvT hZ (hw _ (List.mem_of_getElem? (i := 42) rfl)))) (mvT hZ (hw _ (List.mem_of_getElem? (i := 42) rfl))) (mvT hZ (hw _ (List.mem_of_getElem? (i := 41) rfl))) (by decide) (backOf (W := 0) (rmT l Z a0 hw [] sv dm ps vs (1 : Int32) ((1 : Int32) + k) 5 (own_p5 p0 p1 p2) (own_v5 v0 v1 v2 jk) T267.heap n0 Z267 hSV G267_ps G267_vs bdm ⟨by first | decide | (rw [z]; decide), by first | decide | (rw [z]; decide), by first | decide | (rw [z]; decide)⟩ hrng) hZ (hw _ (List.mem_of_getElem? (i := 43) rfl)) (hw _ (List.mem_of_getElem? (i := 2) rfl)) (by decide) (by decide)) q277a q277c (g := (mkF m 364 #[.val (.int q1), .val (.int q2), .val (.int q3), .val (.int q4), .val (.int q5), .val (.int k), .val (.int av), .val (.int p0), .val (.int p1), .val (.int p2), .val (.int xt), .val (.int lst), .val (.int dm), .val (.double v0), .second, .val (.double v1), .second, .val (.double v2), .second, .val (.double jk), .second, .val (.ref sv), .val (.ref ps), .val (.ref vs)] [(.ref sv)])) rfl (by rw [hml]; rfl) (Steps.refl _) (argsL := []) (rest := []) (lenOf pd_3 rfl) rfl (by show 2 * 0 + _ ≤ _; exact Nat.le_of_eq rfl) (hb hby at_364) (fun _ _ => ⟨rfl, rfl, (by decide : (((0 + 1) + 1) + 1) + 1 ≤ _), (by decide : (((0 + 5) + 5) + 5) + 15 ≤ _)⟩)
        dsimp only [Pt.U, Pt.locs, Pt.cells, Pt.slots] at X277 l277 y277 z277 st277 hQ277
        subst l277 y277 z277
        obtain ⟨c1, rfl, sc1, Gc1_, Kc277, Nq277⟩ := hQ277
        have N277 := Fr.app N267 Nq277
        have r278 : Steps p.tables e below S0 (T277.setTop (mkF m 367 #[.val (.int q1), .val (.int q2), .val (.int q3), .val (.int q4), .val (.int q5), .val (.int k), .val (.int av), .val (.int p0), .val (.int p1), .val (.int p2), .val (.int xt), .val (.int lst), .val (.int dm), .val (.double v0), .second, .val (.double v1), .second, .val (.double v2), .second, .val (.double jk), .second, .val (.ref sv), .val (.ref ps), .val (.ref vs)] [(.ref c1)])) := r276.trans st277
        have G277_ps := G267_ps.keep Kc277 nin0
        have G277_vs := G267_vs.keep Kc277 nin0
        have E277_sv_ := hSV.1.keep Kc277
        have E277_sv := hSV.1.keep Kc277
        have Z277 : n0 ≤ T277.heap.size := Nat.le_trans Z267 Kc277.1
        have hSVc1 := own_svkeep hSV Kc277
        have G1_ : Gar Z T277.heap c1 .double dm.toNatClampNeg (fun i => .double (own_c k p0 p1 p2 v0 v1 v2 i)) := Gc1_.congr (fun i _ => by
            rw [show (((1 : Int32) + k).toInt - (1 : Int32).toInt).toNat = 1 by first | decide | (rw [z]; decide), show (1 : Int32).toNatClampNeg = 1 by first | decide | (rw [z]; decide), z]
            rfl)
        have r279 : Steps p.tables e below S0 (T277.setTop (mkF m 371 #[.val (.int q1), .val (.int q2), .val (.int q3), .val (.int q4), .val (.int q5), .val (.int k), .val (.int av), .val (.int p0), .val (.int p1), .val (.int p2), .val (.int xt), .val (.int lst), .val (.int dm), .val (.double v0), .second, .val (.double v1), .second, .val (.double v2), .second, .val (.double jk), .second, .val (.ref sv), .val (.ref c1), .val (.ref vs)] [(.ref sv)])) := by
          refine r278.trans ?_
          show Steps p.tables e below (T277.setTop (mkF m 367 #[.val (.int q1), .val (.int q2), .val (.int q3), .val (.int q4), .val (.int q5), .val (.int k), .val (.int av), .val (.int p0), .val (.int p1), .val (.int p2), .val (.int xt), .val (.int lst), .val (.int dm), .val (.double v0), .second, .val (.double v1), .second, .val (.double v2), .second, .val (.double jk), .second, .val (.ref sv), .val (.ref ps), .val (.ref vs)] [(.ref c1)])) _
          refine XS.astore X277.here hx rfl (hb hby at_367) rfl rfl (l' := #[.val (.int q1), .val (.int q2), .val (.int q3), .val (.int q4), .val (.int q5), .val (.int k), .val (.int av), .val (.int p0), .val (.int p1), .val (.int p2), .val (.int xt), .val (.int lst), .val (.int dm), .val (.double v0), .second, .val (.double v1), .second, .val (.double v2), .second, .val (.double jk), .second, .val (.ref sv), .val (.ref c1), .val (.ref vs)]) rfl ?_
          show Steps p.tables e below (T277.setTop (mkF m 369 #[.val (.int q1), .val (.int q2), .val (.int q3), .val (.int q4), .val (.int q5), .val (.int k), .val (.int av), .val (.int p0), .val (.int p1), .val (.int p2), .val (.int xt), .val (.int lst), .val (.int dm), .val (.double v0), .second, .val (.double v1), .second, .val (.double v2), .second, .val (.double jk), .second, .val (.ref sv), .val (.ref c1), .val (.ref vs)] [])) _
          refine XS.aload X277.here hx rfl (hb hby at_369) rfl rfl ?_
          exact Steps.refl _
        obtain ⟨cq280, kq280, q280a, q280b, q280c⟩ := isOf hZ rfl hSVc1.1
        obtain ⟨_, _, ⟨T280, L280, k280, n280⟩, -, X280, ⟨Lc280, hQ280, l280, y280, z280⟩, st280⟩ := X277.virtualBack hx (y := (⟨"com/example/polytome/polytome/model/SparseVector", "toArray", "()[D"⟩ : MethodName)) (z := (⟨"com/example/polytome/polytome/model/SparseVector", "toArray", "()[D"⟩ : MethodName)) hown (mvT hZ (hw _ (List.mem_of_getElem? (i := 39) rfl))) (mvT hZ (hw _ (List.mem_of_getElem? (i := 40) rfl))) (notFace_of_selects (args := #[]) (mvT hZ (hw _ (List.mem_of_getElem? (i := 42) rfl)))) (mvT hZ (hw _ (List.mem_of_getElem? (i := 42) rfl))) (mvT hZ (hw _ (List.mem_of_getElem? (i := 41) rfl))) (by decide) (backOf (W := 0) (rmT l Z a0 hw [] sv dm ps vs (1 : Int32) ((1 : Int32) + k) 5 (own_p5 p0 p1 p2) (own_v5 v0 v1 v2 jk) T277.heap n0 Z277 hSVc1 G277_ps G277_vs bdm ⟨by first | decide | (rw [z]; decide), by first | decide | (rw [z]; decide), by first | decide | (rw [z]; decide)⟩ hrng) hZ (hw _ (List.mem_of_getElem? (i := 43) rfl)) (hw _ (List.mem_of_getElem? (i := 2) rfl)) (by decide) (by decide)) q280a q280c (g := (mkF m 371 #[.val (.int q1), .val (.int q2), .val (.int q3), .val (.int q4), .val (.int q5), .val (.int k), .val (.int av), .val (.int p0), .val (.int p1), .val (.int p2), .val (.int xt), .val (.int lst), .val (.int dm), .val (.double v0), .second, .val (.double v1), .second, .val (.double v2), .second, .val (.double jk), .second, .val (.ref sv), .val (.ref c1), .val (.ref vs)] [(.ref sv)])) rfl (by rw [hml]; rfl) (Steps.refl _) (argsL := []) (rest := []) (lenOf pd_3 rfl) rfl (by show 2 * 0 + _ ≤ _; exact Nat.le_of_eq rfl) (hb hby at_371) (fun _ _ => ⟨rfl, rfl, (by decide : ((((0 + 1) + 1) + 1) + 1) + 1 ≤ _), (by decide : ((((0 + 5) + 5) + 5) + 15) + 15 ≤ _)⟩)
        dsimp only [Pt.U, Pt.locs, Pt.cells, Pt.slots] at X280 l280 y280 z280 st280 hQ280
        subst l280 y280 z280
        obtain ⟨c2, rfl, sc2, Gc2_, Kc280, Nq280⟩ := hQ280
        have N280 := Fr.app N277 Nq280
        have r281 : Steps p.tables e below S0 (T280.setTop (mkF m 374 #[.val (.int q1), .val (.int q2), .val (.int q3), .val (.int q4), .val (.int q5), .val (.int k), .val (.int av), .val (.int p0), .val (.int p1), .val (.int p2), .val (.int xt), .val (.int lst), .val (.int dm), .val (.double v0), .second, .val (.double v1), .second, .val (.double v2), .second, .val (.double jk), .second, .val (.ref sv), .val (.ref c1), .val (.ref vs)] [(.ref c2)])) := r279.trans st280
        have G280_ps := G277_ps.keep Kc280 nin0
        have G280_vs := G277_vs.keep Kc280 nin0
        have G280_c1 := G1_.keep Kc280 nin0
        have E280_sv_ := E277_sv_.keep Kc280
        have E280_sv := hSVc1.1.keep Kc280
        have Z280 : n0 ≤ T280.heap.size := Nat.le_trans Z277 Kc280.1
        have hSVc2 := own_svkeep hSVc1 Kc280
        have r282 : Steps p.tables e below S0 (T280.setTop (mkF m 376 #[.val (.int q1), .val (.int q2), .val (.int q3), .val (.int q4), .val (.int q5), .val (.int k), .val (.int av), .val (.int p0), .val (.int p1), .val (.int p2), .val (.int xt), .val (.int lst), .val (.int dm), .val (.double v0), .second, .val (.double v1), .second, .val (.double v2), .second, .val (.double jk), .second, .val (.ref sv), .val (.ref c1), .val (.ref c2)] [])) := by
          refine r281.trans ?_
          show Steps p.tables e below (T280.setTop (mkF m 374 #[.val (.int q1), .val (.int q2), .val (.int q3), .val (.int q4), .val (.int q5), .val (.int k), .val (.int av), .val (.int p0), .val (.int p1), .val (.int p2), .val (.int xt), .val (.int lst), .val (.int dm), .val (.double v0), .second, .val (.double v1), .second, .val (.double v2), .second, .val (.double jk), .second, .val (.ref sv), .val (.ref c1), .val (.ref vs)] [(.ref c2)])) _
          refine XS.astore X280.here hx rfl (hb hby at_374) rfl rfl (l' := #[.val (.int q1), .val (.int q2), .val (.int q3), .val (.int q4), .val (.int q5), .val (.int k), .val (.int av), .val (.int p0), .val (.int p1), .val (.int p2), .val (.int xt), .val (.int lst), .val (.int dm), .val (.double v0), .second, .val (.double v1), .second, .val (.double v2), .second, .val (.double jk), .second, .val (.ref sv), .val (.ref c1), .val (.ref c2)]) rfl ?_
          exact Steps.refl _
        have hne_ : c1 ≠ c2 := Nat.ne_of_lt (Nat.lt_of_lt_of_le G1_.lt sc2)
        exact ⟨_, _, _, sv, c1, c2, X280.more (by decide) (by decide), rfl, N280, Z280, hne_, G280_c1, r282⟩
      · skip
        have hl : lst.toInt = p1.toInt + 1 := by rcases hlst with ⟨y, h_⟩ | ⟨y, h_⟩ | ⟨y, h_⟩ | ⟨y, h_⟩ <;> first | exact h_ | exact absurd (z.symm.trans y) (by decide)
        have hrng : ∀ i : Nat, (1 : Int32).toInt ≤ (i : Int) → (i : Int) < ((1 : Int32) + k).toInt → 0 ≤ ((own_p5 p0 p1 p2) i).toInt ∧ ((own_p5 p0 p1 p2) i).toInt < dm.toInt := by
          intro i h1 h2
          rw [show (1 : Int32).toInt = 1 by first | decide | (rw [z]; decide)] at h1
          rw [show ((1 : Int32) + k).toInt = 3 by first | decide | (rw [z]; decide)] at h2
          have hi : i = 1 ∨ i = 2 := by omega
          rcases hi with rfl | rfl
          · show 0 ≤ p0.toInt ∧ p0.toInt < dm.toInt; omega
          · show 0 ≤ p1.toInt ∧ p1.toInt < dm.toInt; omega
        have r283 : Steps p.tables e below S0 (T267.setTop (mkF m 364 #[.val (.int q1), .val (.int q2), .val (.int q3), .val (.int q4), .val (.int q5), .val (.int k), .val (.int av), .val (.int p0), .val (.int p1), .val (.int p2), .val (.int xt), .val (.int lst), .val (.int dm), .val (.double v0), .second, .val (.double v1), .second, .val (.double v2), .second, .val (.double jk), .second, .val (.ref sv), .val (.ref ps), .val (.ref vs)] [(.ref sv)])) := by
          refine r268.trans ?_
          show Steps p.tables e below (T267.setTop (mkF m 203 #[.val (.int q1), .val (.int q2), .val (.int q3), .val (.int q4), .val (.int q5), .val (.int k), .val (.int av), .val (.int p0), .val (.int p1), .val (.int p2), .val (.int xt), .val (.int lst), .val (.int dm), .val (.double v0), .second, .val (.double v1), .second, .val (.double v2), .second, .val (.double jk), .second, .unset, .val (.ref ps), .val (.ref vs)] [(.ref sv)])) _
          refine XS.astore X267.here hx rfl (hb hby at_203) rfl rfl (l' := #[.val (.int q1), .val (.int q2), .val (.int q3), .val (.int q4), .val (.int q5), .val (.int k), .val (.int av), .val (.int p0), .val (.int p1), .val (.int p2), .val (.int xt), .val (.int lst), .val (.int dm), .val (.double v0), .second, .val (.double v1), .second, .val (.double v2), .second, .val (.double jk), .second, .val (.ref sv), .val (.ref ps), .val (.ref vs)]) rfl ?_
          show Steps p.tables e below (T267.setTop (mkF m 205 #[.val (.int q1), .val (.int q2), .val (.int q3), .val (.int q4), .val (.int q5), .val (.int k), .val (.int av), .val (.int p0), .val (.int p1), .val (.int p2), .val (.int xt), .val (.int lst), .val (.int dm), .val (.double v0), .second, .val (.double v1), .second, .val (.double v2), .second, .val (.double jk), .second, .val (.ref sv), .val (.ref ps), .val (.ref vs)] [])) _
          refine XS.goto X267.here hx rfl (pc0 := 205) (pc' := 362) rfl (hb hby at_205) (by decide) (by decide) ?_
          show Steps p.tables e below (T267.setTop (mkF m 362 #[.val (.int q1), .val (.int q2), .val (.int q3), .val (.int q4), .val (.int q5), .val (.int k), .val (.int av), .val (.int p0), .val (.int p1), .val (.int p2), .val (.int xt), .val (.int lst), .val (.int dm), .val (.double v0), .second, .val (.double v1), .second, .val (.double v2), .second, .val (.double jk), .second, .val (.ref sv), .val (.ref ps), .val (.ref vs)] [])) _
          refine XS.aload X267.here hx rfl (hb hby at_362) rfl rfl ?_
          exact Steps.refl _
        obtain ⟨cq284, kq284, q284a, q284b, q284c⟩ := isOf hZ rfl hSV.1
        obtain ⟨_, _, ⟨T284, L284, k284, n284⟩, -, X284, ⟨Lc284, hQ284, l284, y284, z284⟩, st284⟩ := X267.virtualBack hx (y := (⟨"com/example/polytome/polytome/model/SparseVector", "toArray", "()[D"⟩ : MethodName)) (z := (⟨"com/example/polytome/polytome/model/SparseVector", "toArray", "()[D"⟩ : MethodName)) hown (mvT hZ (hw _ (List.mem_of_getElem? (i := 39) rfl))) (mvT hZ (hw _ (List.mem_of_getElem? (i := 40) rfl))) (notFace_of_selects (args := #[]) (mvT hZ (hw _ (List.mem_of_getElem? (i := 42) rfl)))) (mvT hZ (hw _ (List.mem_of_getElem? (i := 42) rfl))) (mvT hZ (hw _ (List.mem_of_getElem? (i := 41) rfl))) (by decide) (backOf (W := 0) (rmT l Z a0 hw [] sv dm ps vs (1 : Int32) ((1 : Int32) + k) 5 (own_p5 p0 p1 p2) (own_v5 v0 v1 v2 jk) T267.heap n0 Z267 hSV G267_ps G267_vs bdm ⟨by first | decide | (rw [z]; decide), by first | decide | (rw [z]; decide), by first | decide | (rw [z]; decide)⟩ hrng) hZ (hw _ (List.mem_of_getElem? (i := 43) rfl)) (hw _ (List.mem_of_getElem? (i := 2) rfl)) (by decide) (by decide)) q284a q284c (g := (mkF m 364 #[.val (.int q1), .val (.int q2), .val (.int q3), .val (.int q4), .val (.int q5), .val (.int k), .val (.int av), .val (.int p0), .val (.int p1), .val (.int p2), .val (.int xt), .val (.int lst), .val (.int dm), .val (.double v0), .second, .val (.double v1), .second, .val (.double v2), .second, .val (.double jk), .second, .val (.ref sv), .val (.ref ps), .val (.ref vs)] [(.ref sv)])) rfl (by rw [hml]; rfl) (Steps.refl _) (argsL := []) (rest := []) (lenOf pd_3 rfl) rfl (by show 2 * 0 + _ ≤ _; exact Nat.le_of_eq rfl) (hb hby at_364) (fun _ _ => ⟨rfl, rfl, (by decide : (((0 + 1) + 1) + 1) + 1 ≤ _), (by decide : (((0 + 5) + 5) + 5) + 15 ≤ _)⟩)
        dsimp only [Pt.U, Pt.locs, Pt.cells, Pt.slots] at X284 l284 y284 z284 st284 hQ284
        subst l284 y284 z284
        obtain ⟨c1, rfl, sc1, Gc1_, Kc284, Nq284⟩ := hQ284
        have N284 := Fr.app N267 Nq284
        have r285 : Steps p.tables e below S0 (T284.setTop (mkF m 367 #[.val (.int q1), .val (.int q2), .val (.int q3), .val (.int q4), .val (.int q5), .val (.int k), .val (.int av), .val (.int p0), .val (.int p1), .val (.int p2), .val (.int xt), .val (.int lst), .val (.int dm), .val (.double v0), .second, .val (.double v1), .second, .val (.double v2), .second, .val (.double jk), .second, .val (.ref sv), .val (.ref ps), .val (.ref vs)] [(.ref c1)])) := r283.trans st284
        have G284_ps := G267_ps.keep Kc284 nin0
        have G284_vs := G267_vs.keep Kc284 nin0
        have E284_sv_ := hSV.1.keep Kc284
        have E284_sv := hSV.1.keep Kc284
        have Z284 : n0 ≤ T284.heap.size := Nat.le_trans Z267 Kc284.1
        have hSVc1 := own_svkeep hSV Kc284
        have G1_ : Gar Z T284.heap c1 .double dm.toNatClampNeg (fun i => .double (own_c k p0 p1 p2 v0 v1 v2 i)) := Gc1_.congr (fun i _ => by
            rw [show (((1 : Int32) + k).toInt - (1 : Int32).toInt).toNat = 2 by first | decide | (rw [z]; decide), show (1 : Int32).toNatClampNeg = 1 by first | decide | (rw [z]; decide), z]
            rfl)
        have r286 : Steps p.tables e below S0 (T284.setTop (mkF m 371 #[.val (.int q1), .val (.int q2), .val (.int q3), .val (.int q4), .val (.int q5), .val (.int k), .val (.int av), .val (.int p0), .val (.int p1), .val (.int p2), .val (.int xt), .val (.int lst), .val (.int dm), .val (.double v0), .second, .val (.double v1), .second, .val (.double v2), .second, .val (.double jk), .second, .val (.ref sv), .val (.ref c1), .val (.ref vs)] [(.ref sv)])) := by
          refine r285.trans ?_
          show Steps p.tables e below (T284.setTop (mkF m 367 #[.val (.int q1), .val (.int q2), .val (.int q3), .val (.int q4), .val (.int q5), .val (.int k), .val (.int av), .val (.int p0), .val (.int p1), .val (.int p2), .val (.int xt), .val (.int lst), .val (.int dm), .val (.double v0), .second, .val (.double v1), .second, .val (.double v2), .second, .val (.double jk), .second, .val (.ref sv), .val (.ref ps), .val (.ref vs)] [(.ref c1)])) _
          refine XS.astore X284.here hx rfl (hb hby at_367) rfl rfl (l' := #[.val (.int q1), .val (.int q2), .val (.int q3), .val (.int q4), .val (.int q5), .val (.int k), .val (.int av), .val (.int p0), .val (.int p1), .val (.int p2), .val (.int xt), .val (.int lst), .val (.int dm), .val (.double v0), .second, .val (.double v1), .second, .val (.double v2), .second, .val (.double jk), .second, .val (.ref sv), .val (.ref c1), .val (.ref vs)]) rfl ?_
          show Steps p.tables e below (T284.setTop (mkF m 369 #[.val (.int q1), .val (.int q2), .val (.int q3), .val (.int q4), .val (.int q5), .val (.int k), .val (.int av), .val (.int p0), .val (.int p1), .val (.int p2), .val (.int xt), .val (.int lst), .val (.int dm), .val (.double v0), .second, .val (.double v1), .second, .val (.double v2), .second, .val (.double jk), .second, .val (.ref sv), .val (.ref c1), .val (.ref vs)] [])) _
          refine XS.aload X284.here hx rfl (hb hby at_369) rfl rfl ?_
          exact Steps.refl _
        obtain ⟨cq287, kq287, q287a, q287b, q287c⟩ := isOf hZ rfl hSVc1.1
        obtain ⟨_, _, ⟨T287, L287, k287, n287⟩, -, X287, ⟨Lc287, hQ287, l287, y287, z287⟩, st287⟩ := X284.virtualBack hx (y := (⟨"com/example/polytome/polytome/model/SparseVector", "toArray", "()[D"⟩ : MethodName)) (z := (⟨"com/example/polytome/polytome/model/SparseVector", "toArray", "()[D"⟩ : MethodName)) hown (mvT hZ (hw _ (List.mem_of_getElem? (i := 39) rfl))) (mvT hZ (hw _ (List.mem_of_getElem? (i := 40) rfl))) (notFace_of_selects (args := #[]) (mvT hZ (hw _ (List.mem_of_getElem? (i := 42) rfl)))) (mvT hZ (hw _ (List.mem_of_getElem? (i := 42) rfl))) (mvT hZ (hw _ (List.mem_of_getElem? (i := 41) rfl))) (by decide) (backOf (W := 0) (rmT l Z a0 hw [] sv dm ps vs (1 : Int32) ((1 : Int32) + k) 5 (own_p5 p0 p1 p2) (own_v5 v0 v1 v2 jk) T284.heap n0 Z284 hSVc1 G284_ps G284_vs bdm ⟨by first | decide | (rw [z]; decide), by first | decide | (rw [z]; decide), by first | decide | (rw [z]; decide)⟩ hrng) hZ (hw _ (List.mem_of_getElem? (i := 43) rfl)) (hw _ (List.mem_of_getElem? (i := 2) rfl)) (by decide) (by decide)) q287a q287c (g := (mkF m 371 #[.val (.int q1), .val (.int q2), .val (.int q3), .val (.int q4), .val (.int q5), .val (.int k), .val (.int av), .val (.int p0), .val (.int p1), .val (.int p2), .val (.int xt), .val (.int lst), .val (.int dm), .val (.double v0), .second, .val (.double v1), .second, .val (.double v2), .second, .val (.double jk), .second, .val (.ref sv), .val (.ref c1), .val (.ref vs)] [(.ref sv)])) rfl (by rw [hml]; rfl) (Steps.refl _) (argsL := []) (rest := []) (lenOf pd_3 rfl) rfl (by show 2 * 0 + _ ≤ _; exact Nat.le_of_eq rfl) (hb hby at_371) (fun _ _ => ⟨rfl, rfl, (by decide : ((((0 + 1) + 1) + 1) + 1) + 1 ≤ _), (by decide : ((((0 + 5) + 5) + 5) + 15) + 15 ≤ _)⟩)
        dsimp only [Pt.U, Pt.locs, Pt.cells, Pt.slots] at X287 l287 y287 z287 st287 hQ287
        subst l287 y287 z287
        obtain ⟨c2, rfl, sc2, Gc2_, Kc287, Nq287⟩ := hQ287
        have N287 := Fr.app N284 Nq287
        have r288 : Steps p.tables e below S0 (T287.setTop (mkF m 374 #[.val (.int q1), .val (.int q2), .val (.int q3), .val (.int q4), .val (.int q5), .val (.int k), .val (.int av), .val (.int p0), .val (.int p1), .val (.int p2), .val (.int xt), .val (.int lst), .val (.int dm), .val (.double v0), .second, .val (.double v1), .second, .val (.double v2), .second, .val (.double jk), .second, .val (.ref sv), .val (.ref c1), .val (.ref vs)] [(.ref c2)])) := r286.trans st287
        have G287_ps := G284_ps.keep Kc287 nin0
        have G287_vs := G284_vs.keep Kc287 nin0
        have G287_c1 := G1_.keep Kc287 nin0
        have E287_sv_ := E284_sv_.keep Kc287
        have E287_sv := hSVc1.1.keep Kc287
        have Z287 : n0 ≤ T287.heap.size := Nat.le_trans Z284 Kc287.1
        have hSVc2 := own_svkeep hSVc1 Kc287
        have r289 : Steps p.tables e below S0 (T287.setTop (mkF m 376 #[.val (.int q1), .val (.int q2), .val (.int q3), .val (.int q4), .val (.int q5), .val (.int k), .val (.int av), .val (.int p0), .val (.int p1), .val (.int p2), .val (.int xt), .val (.int lst), .val (.int dm), .val (.double v0), .second, .val (.double v1), .second, .val (.double v2), .second, .val (.double jk), .second, .val (.ref sv), .val (.ref c1), .val (.ref c2)] [])) := by
          refine r288.trans ?_
          show Steps p.tables e below (T287.setTop (mkF m 374 #[.val (.int q1), .val (.int q2), .val (.int q3), .val (.int q4), .val (.int q5), .val (.int k), .val (.int av), .val (.int p0), .val (.int p1), .val (.int p2), .val (.int xt), .val (.int lst), .val (.int dm), .val (.double v0), .second, .val (.double v1), .second, .val (.double v2), .second, .val (.double jk), .second, .val (.ref sv), .val (.ref c1), .val (.ref vs)] [(.ref c2)])) _
          refine XS.astore X287.here hx rfl (hb hby at_374) rfl rfl (l' := #[.val (.int q1), .val (.int q2), .val (.int q3), .val (.int q4), .val (.int q5), .val (.int k), .val (.int av), .val (.int p0), .val (.int p1), .val (.int p2), .val (.int xt), .val (.int lst), .val (.int dm), .val (.double v0), .second, .val (.double v1), .second, .val (.double v2), .second, .val (.double jk), .second, .val (.ref sv), .val (.ref c1), .val (.ref c2)]) rfl ?_
          exact Steps.refl _
        have hne_ : c1 ≠ c2 := Nat.ne_of_lt (Nat.lt_of_lt_of_le G1_.lt sc2)
        exact ⟨_, _, _, sv, c1, c2, X287.more (by decide) (by decide), rfl, N287, Z287, hne_, G287_c1, r289⟩
      · skip
        have hl : lst.toInt = p2.toInt + 1 := by rcases hlst with ⟨y, h_⟩ | ⟨y, h_⟩ | ⟨y, h_⟩ | ⟨y, h_⟩ <;> first | exact h_ | exact absurd (z.symm.trans y) (by decide)
        have hrng : ∀ i : Nat, (1 : Int32).toInt ≤ (i : Int) → (i : Int) < ((1 : Int32) + k).toInt → 0 ≤ ((own_p5 p0 p1 p2) i).toInt ∧ ((own_p5 p0 p1 p2) i).toInt < dm.toInt := by
          intro i h1 h2
          rw [show (1 : Int32).toInt = 1 by first | decide | (rw [z]; decide)] at h1
          rw [show ((1 : Int32) + k).toInt = 4 by first | decide | (rw [z]; decide)] at h2
          have hi : i = 1 ∨ i = 2 ∨ i = 3 := by omega
          rcases hi with rfl | rfl | rfl
          · show 0 ≤ p0.toInt ∧ p0.toInt < dm.toInt; omega
          · show 0 ≤ p1.toInt ∧ p1.toInt < dm.toInt; omega
          · show 0 ≤ p2.toInt ∧ p2.toInt < dm.toInt; omega
        have r290 : Steps p.tables e below S0 (T267.setTop (mkF m 364 #[.val (.int q1), .val (.int q2), .val (.int q3), .val (.int q4), .val (.int q5), .val (.int k), .val (.int av), .val (.int p0), .val (.int p1), .val (.int p2), .val (.int xt), .val (.int lst), .val (.int dm), .val (.double v0), .second, .val (.double v1), .second, .val (.double v2), .second, .val (.double jk), .second, .val (.ref sv), .val (.ref ps), .val (.ref vs)] [(.ref sv)])) := by
          refine r268.trans ?_
          show Steps p.tables e below (T267.setTop (mkF m 203 #[.val (.int q1), .val (.int q2), .val (.int q3), .val (.int q4), .val (.int q5), .val (.int k), .val (.int av), .val (.int p0), .val (.int p1), .val (.int p2), .val (.int xt), .val (.int lst), .val (.int dm), .val (.double v0), .second, .val (.double v1), .second, .val (.double v2), .second, .val (.double jk), .second, .unset, .val (.ref ps), .val (.ref vs)] [(.ref sv)])) _
          refine XS.astore X267.here hx rfl (hb hby at_203) rfl rfl (l' := #[.val (.int q1), .val (.int q2), .val (.int q3), .val (.int q4), .val (.int q5), .val (.int k), .val (.int av), .val (.int p0), .val (.int p1), .val (.int p2), .val (.int xt), .val (.int lst), .val (.int dm), .val (.double v0), .second, .val (.double v1), .second, .val (.double v2), .second, .val (.double jk), .second, .val (.ref sv), .val (.ref ps), .val (.ref vs)]) rfl ?_
          show Steps p.tables e below (T267.setTop (mkF m 205 #[.val (.int q1), .val (.int q2), .val (.int q3), .val (.int q4), .val (.int q5), .val (.int k), .val (.int av), .val (.int p0), .val (.int p1), .val (.int p2), .val (.int xt), .val (.int lst), .val (.int dm), .val (.double v0), .second, .val (.double v1), .second, .val (.double v2), .second, .val (.double jk), .second, .val (.ref sv), .val (.ref ps), .val (.ref vs)] [])) _
          refine XS.goto X267.here hx rfl (pc0 := 205) (pc' := 362) rfl (hb hby at_205) (by decide) (by decide) ?_
          show Steps p.tables e below (T267.setTop (mkF m 362 #[.val (.int q1), .val (.int q2), .val (.int q3), .val (.int q4), .val (.int q5), .val (.int k), .val (.int av), .val (.int p0), .val (.int p1), .val (.int p2), .val (.int xt), .val (.int lst), .val (.int dm), .val (.double v0), .second, .val (.double v1), .second, .val (.double v2), .second, .val (.double jk), .second, .val (.ref sv), .val (.ref ps), .val (.ref vs)] [])) _
          refine XS.aload X267.here hx rfl (hb hby at_362) rfl rfl ?_
          exact Steps.refl _
        obtain ⟨cq291, kq291, q291a, q291b, q291c⟩ := isOf hZ rfl hSV.1
        obtain ⟨_, _, ⟨T291, L291, k291, n291⟩, -, X291, ⟨Lc291, hQ291, l291, y291, z291⟩, st291⟩ := X267.virtualBack hx (y := (⟨"com/example/polytome/polytome/model/SparseVector", "toArray", "()[D"⟩ : MethodName)) (z := (⟨"com/example/polytome/polytome/model/SparseVector", "toArray", "()[D"⟩ : MethodName)) hown (mvT hZ (hw _ (List.mem_of_getElem? (i := 39) rfl))) (mvT hZ (hw _ (List.mem_of_getElem? (i := 40) rfl))) (notFace_of_selects (args := #[]) (mvT hZ (hw _ (List.mem_of_getElem? (i := 42) rfl)))) (mvT hZ (hw _ (List.mem_of_getElem? (i := 42) rfl))) (mvT hZ (hw _ (List.mem_of_getElem? (i := 41) rfl))) (by decide) (backOf (W := 0) (rmT l Z a0 hw [] sv dm ps vs (1 : Int32) ((1 : Int32) + k) 5 (own_p5 p0 p1 p2) (own_v5 v0 v1 v2 jk) T267.heap n0 Z267 hSV G267_ps G267_vs bdm ⟨by first | decide | (rw [z]; decide), by first | decide | (rw [z]; decide), by first | decide | (rw [z]; decide)⟩ hrng) hZ (hw _ (List.mem_of_getElem? (i := 43) rfl)) (hw _ (List.mem_of_getElem? (i := 2) rfl)) (by decide) (by decide)) q291a q291c (g := (mkF m 364 #[.val (.int q1), .val (.int q2), .val (.int q3), .val (.int q4), .val (.int q5), .val (.int k), .val (.int av), .val (.int p0), .val (.int p1), .val (.int p2), .val (.int xt), .val (.int lst), .val (.int dm), .val (.double v0), .second, .val (.double v1), .second, .val (.double v2), .second, .val (.double jk), .second, .val (.ref sv), .val (.ref ps), .val (.ref vs)] [(.ref sv)])) rfl (by rw [hml]; rfl) (Steps.refl _) (argsL := []) (rest := []) (lenOf pd_3 rfl) rfl (by show 2 * 0 + _ ≤ _; exact Nat.le_of_eq rfl) (hb hby at_364) (fun _ _ => ⟨rfl, rfl, (by decide : (((0 + 1) + 1) + 1) + 1 ≤ _), (by decide : (((0 + 5) + 5) + 5) + 15 ≤ _)⟩)
        dsimp only [Pt.U, Pt.locs, Pt.cells, Pt.slots] at X291 l291 y291 z291 st291 hQ291
        subst l291 y291 z291
        obtain ⟨c1, rfl, sc1, Gc1_, Kc291, Nq291⟩ := hQ291
        have N291 := Fr.app N267 Nq291
        have r292 : Steps p.tables e below S0 (T291.setTop (mkF m 367 #[.val (.int q1), .val (.int q2), .val (.int q3), .val (.int q4), .val (.int q5), .val (.int k), .val (.int av), .val (.int p0), .val (.int p1), .val (.int p2), .val (.int xt), .val (.int lst), .val (.int dm), .val (.double v0), .second, .val (.double v1), .second, .val (.double v2), .second, .val (.double jk), .second, .val (.ref sv), .val (.ref ps), .val (.ref vs)] [(.ref c1)])) := r290.trans st291
        have G291_ps := G267_ps.keep Kc291 nin0
        have G291_vs := G267_vs.keep Kc291 nin0
        have E291_sv_ := hSV.1.keep Kc291
        have E291_sv := hSV.1.keep Kc291
        have Z291 : n0 ≤ T291.heap.size := Nat.le_trans Z267 Kc291.1
        have hSVc1 := own_svkeep hSV Kc291
        have G1_ : Gar Z T291.heap c1 .double dm.toNatClampNeg (fun i => .double (own_c k p0 p1 p2 v0 v1 v2 i)) := Gc1_.congr (fun i _ => by
            rw [show (((1 : Int32) + k).toInt - (1 : Int32).toInt).toNat = 3 by first | decide | (rw [z]; decide), show (1 : Int32).toNatClampNeg = 1 by first | decide | (rw [z]; decide), z]
            rfl)
        have r293 : Steps p.tables e below S0 (T291.setTop (mkF m 371 #[.val (.int q1), .val (.int q2), .val (.int q3), .val (.int q4), .val (.int q5), .val (.int k), .val (.int av), .val (.int p0), .val (.int p1), .val (.int p2), .val (.int xt), .val (.int lst), .val (.int dm), .val (.double v0), .second, .val (.double v1), .second, .val (.double v2), .second, .val (.double jk), .second, .val (.ref sv), .val (.ref c1), .val (.ref vs)] [(.ref sv)])) := by
          refine r292.trans ?_
          show Steps p.tables e below (T291.setTop (mkF m 367 #[.val (.int q1), .val (.int q2), .val (.int q3), .val (.int q4), .val (.int q5), .val (.int k), .val (.int av), .val (.int p0), .val (.int p1), .val (.int p2), .val (.int xt), .val (.int lst), .val (.int dm), .val (.double v0), .second, .val (.double v1), .second, .val (.double v2), .second, .val (.double jk), .second, .val (.ref sv), .val (.ref ps), .val (.ref vs)] [(.ref c1)])) _
          refine XS.astore X291.here hx rfl (hb hby at_367) rfl rfl (l' := #[.val (.int q1), .val (.int q2), .val (.int q3), .val (.int q4), .val (.int q5), .val (.int k), .val (.int av), .val (.int p0), .val (.int p1), .val (.int p2), .val (.int xt), .val (.int lst), .val (.int dm), .val (.double v0), .second, .val (.double v1), .second, .val (.double v2), .second, .val (.double jk), .second, .val (.ref sv), .val (.ref c1), .val (.ref vs)]) rfl ?_
          show Steps p.tables e below (T291.setTop (mkF m 369 #[.val (.int q1), .val (.int q2), .val (.int q3), .val (.int q4), .val (.int q5), .val (.int k), .val (.int av), .val (.int p0), .val (.int p1), .val (.int p2), .val (.int xt), .val (.int lst), .val (.int dm), .val (.double v0), .second, .val (.double v1), .second, .val (.double v2), .second, .val (.double jk), .second, .val (.ref sv), .val (.ref c1), .val (.ref vs)] [])) _
          refine XS.aload X291.here hx rfl (hb hby at_369) rfl rfl ?_
          exact Steps.refl _
        obtain ⟨cq294, kq294, q294a, q294b, q294c⟩ := isOf hZ rfl hSVc1.1
        obtain ⟨_, _, ⟨T294, L294, k294, n294⟩, -, X294, ⟨Lc294, hQ294, l294, y294, z294⟩, st294⟩ := X291.virtualBack hx (y := (⟨"com/example/polytome/polytome/model/SparseVector", "toArray", "()[D"⟩ : MethodName)) (z := (⟨"com/example/polytome/polytome/model/SparseVector", "toArray", "()[D"⟩ : MethodName)) hown (mvT hZ (hw _ (List.mem_of_getElem? (i := 39) rfl))) (mvT hZ (hw _ (List.mem_of_getElem? (i := 40) rfl))) (notFace_of_selects (args := #[]) (mvT hZ (hw _ (List.mem_of_getElem? (i := 42) rfl)))) (mvT hZ (hw _ (List.mem_of_getElem? (i := 42) rfl))) (mvT hZ (hw _ (List.mem_of_getElem? (i := 41) rfl))) (by decide) (backOf (W := 0) (rmT l Z a0 hw [] sv dm ps vs (1 : Int32) ((1 : Int32) + k) 5 (own_p5 p0 p1 p2) (own_v5 v0 v1 v2 jk) T291.heap n0 Z291 hSVc1 G291_ps G291_vs bdm ⟨by first | decide | (rw [z]; decide), by first | decide | (rw [z]; decide), by first | decide | (rw [z]; decide)⟩ hrng) hZ (hw _ (List.mem_of_getElem? (i := 43) rfl)) (hw _ (List.mem_of_getElem? (i := 2) rfl)) (by decide) (by decide)) q294a q294c (g := (mkF m 371 #[.val (.int q1), .val (.int q2), .val (.int q3), .val (.int q4), .val (.int q5), .val (.int k), .val (.int av), .val (.int p0), .val (.int p1), .val (.int p2), .val (.int xt), .val (.int lst), .val (.int dm), .val (.double v0), .second, .val (.double v1), .second, .val (.double v2), .second, .val (.double jk), .second, .val (.ref sv), .val (.ref c1), .val (.ref vs)] [(.ref sv)])) rfl (by rw [hml]; rfl) (Steps.refl _) (argsL := []) (rest := []) (lenOf pd_3 rfl) rfl (by show 2 * 0 + _ ≤ _; exact Nat.le_of_eq rfl) (hb hby at_371) (fun _ _ => ⟨rfl, rfl, (by decide : ((((0 + 1) + 1) + 1) + 1) + 1 ≤ _), (by decide : ((((0 + 5) + 5) + 5) + 15) + 15 ≤ _)⟩)
        dsimp only [Pt.U, Pt.locs, Pt.cells, Pt.slots] at X294 l294 y294 z294 st294 hQ294
        subst l294 y294 z294
        obtain ⟨c2, rfl, sc2, Gc2_, Kc294, Nq294⟩ := hQ294
        have N294 := Fr.app N291 Nq294
        have r295 : Steps p.tables e below S0 (T294.setTop (mkF m 374 #[.val (.int q1), .val (.int q2), .val (.int q3), .val (.int q4), .val (.int q5), .val (.int k), .val (.int av), .val (.int p0), .val (.int p1), .val (.int p2), .val (.int xt), .val (.int lst), .val (.int dm), .val (.double v0), .second, .val (.double v1), .second, .val (.double v2), .second, .val (.double jk), .second, .val (.ref sv), .val (.ref c1), .val (.ref vs)] [(.ref c2)])) := r293.trans st294
        have G294_ps := G291_ps.keep Kc294 nin0
        have G294_vs := G291_vs.keep Kc294 nin0
        have G294_c1 := G1_.keep Kc294 nin0
        have E294_sv_ := E291_sv_.keep Kc294
        have E294_sv := hSVc1.1.keep Kc294
        have Z294 : n0 ≤ T294.heap.size := Nat.le_trans Z291 Kc294.1
        have hSVc2 := own_svkeep hSVc1 Kc294
        have r296 : Steps p.tables e below S0 (T294.setTop (mkF m 376 #[.val (.int q1), .val (.int q2), .val (.int q3), .val (.int q4), .val (.int q5), .val (.int k), .val (.int av), .val (.int p0), .val (.int p1), .val (.int p2), .val (.int xt), .val (.int lst), .val (.int dm), .val (.double v0), .second, .val (.double v1), .second, .val (.double v2), .second, .val (.double jk), .second, .val (.ref sv), .val (.ref c1), .val (.ref c2)] [])) := by
          refine r295.trans ?_
          show Steps p.tables e below (T294.setTop (mkF m 374 #[.val (.int q1), .val (.int q2), .val (.int q3), .val (.int q4), .val (.int q5), .val (.int k), .val (.int av), .val (.int p0), .val (.int p1), .val (.int p2), .val (.int xt), .val (.int lst), .val (.int dm), .val (.double v0), .second, .val (.double v1), .second, .val (.double v2), .second, .val (.double jk), .second, .val (.ref sv), .val (.ref c1), .val (.ref vs)] [(.ref c2)])) _
          refine XS.astore X294.here hx rfl (hb hby at_374) rfl rfl (l' := #[.val (.int q1), .val (.int q2), .val (.int q3), .val (.int q4), .val (.int q5), .val (.int k), .val (.int av), .val (.int p0), .val (.int p1), .val (.int p2), .val (.int xt), .val (.int lst), .val (.int dm), .val (.double v0), .second, .val (.double v1), .second, .val (.double v2), .second, .val (.double jk), .second, .val (.ref sv), .val (.ref c1), .val (.ref c2)]) rfl ?_
          exact Steps.refl _
        have hne_ : c1 ≠ c2 := Nat.ne_of_lt (Nat.lt_of_lt_of_le G1_.lt sc2)
        exact ⟨_, _, _, sv, c1, c2, X294.more (by decide) (by decide), rfl, N294, Z294, hne_, G294_c1, r296⟩
  have hdn := nn_of bdm.1
  have hce := own_ce hk4 bp0.1 bp1.1 bp2.1 (v0 := v0) (v1 := v1) (v2 := v2)
  have hnn : ∀ i : Int32, NoNaN64 (own_e i k p0 p1 p2 v0 v1 v2) := fun i => by rw [hv0, hv1, hv2]; exact own_en _ _ _ _ _ _ _ _
  have r297 : Steps p.tables e below S0 (TM.setTop (mkF m 412 #[.val (.int q1), .val (.int q2), .val (.int q3), .val (.int q4), .val (.int q5), .val (.int k), .val (.int av), .val (.int p0), .val (.int p1), .val (.int p2), .val (.int xt), .val (.int lst), .val (.int dm), .val (.double v0), .second, .val (.double v1), .second, .val (.double v2), .second, .val (.double jk), .second, .val (.ref sv), .val (.ref c1), .val (.ref c2)] [(.double v2), (.double v1), (.double v0), (.int p2), (.int p1), (.int p0), (.int k), (.int (0 : Int32)), (.ref c1)])) := by
    refine rM.trans ?_
    show Steps p.tables e below (TM.setTop (mkF m 376 #[.val (.int q1), .val (.int q2), .val (.int q3), .val (.int q4), .val (.int q5), .val (.int k), .val (.int av), .val (.int p0), .val (.int p1), .val (.int p2), .val (.int xt), .val (.int lst), .val (.int dm), .val (.double v0), .second, .val (.double v1), .second, .val (.double v2), .second, .val (.double jk), .second, .val (.ref sv), .val (.ref c1), .val (.ref c2)] [])) _
    refine XS.aload XM.here hx rfl (hb hby at_376) rfl rfl ?_
    show Steps p.tables e below (TM.setTop (mkF m 378 #[.val (.int q1), .val (.int q2), .val (.int q3), .val (.int q4), .val (.int q5), .val (.int k), .val (.int av), .val (.int p0), .val (.int p1), .val (.int p2), .val (.int xt), .val (.int lst), .val (.int dm), .val (.double v0), .second, .val (.double v1), .second, .val (.double v2), .second, .val (.double jk), .second, .val (.ref sv), .val (.ref c1), .val (.ref c2)] [(.ref c1)])) _
    refine XS.aload XM.here hx rfl (hb hby at_378) rfl rfl ?_
    show Steps p.tables e below (TM.setTop (mkF m 380 #[.val (.int q1), .val (.int q2), .val (.int q3), .val (.int q4), .val (.int q5), .val (.int k), .val (.int av), .val (.int p0), .val (.int p1), .val (.int p2), .val (.int xt), .val (.int lst), .val (.int dm), .val (.double v0), .second, .val (.double v1), .second, .val (.double v2), .second, .val (.double jk), .second, .val (.ref sv), .val (.ref c1), .val (.ref c2)] [(.ref c2), (.ref c1)])) _
    refine Jvm.RoadKit.acmp (g := (mkF m 380 #[.val (.int q1), .val (.int q2), .val (.int q3), .val (.int q4), .val (.int q5), .val (.int k), .val (.int av), .val (.int p0), .val (.int p1), .val (.int p2), .val (.int xt), .val (.int lst), .val (.int dm), .val (.double v0), .second, .val (.double v1), .second, .val (.double v2), .second, .val (.double jk), .second, .val (.ref sv), .val (.ref c1), .val (.ref c2)] [(.ref c2), (.ref c1)])) XM hx rfl rfl rfl (pc0 := 380) (pc' := 385) (same := false) rfl (hb hby at_380) rfl (decide_eq_false fun q => hne (Value.ref.inj q)) (by decide) (by decide) ?_
    show Steps p.tables e below (TM.setTop (mkF m 385 #[.val (.int q1), .val (.int q2), .val (.int q3), .val (.int q4), .val (.int q5), .val (.int k), .val (.int av), .val (.int p0), .val (.int p1), .val (.int p2), .val (.int xt), .val (.int lst), .val (.int dm), .val (.double v0), .second, .val (.double v1), .second, .val (.double v2), .second, .val (.double jk), .second, .val (.ref sv), .val (.ref c1), .val (.ref c2)] [])) _
    refine XS.aload XM.here hx rfl (hb hby at_385) rfl rfl ?_
    show Steps p.tables e below (TM.setTop (mkF m 387 #[.val (.int q1), .val (.int q2), .val (.int q3), .val (.int q4), .val (.int q5), .val (.int k), .val (.int av), .val (.int p0), .val (.int p1), .val (.int p2), .val (.int xt), .val (.int lst), .val (.int dm), .val (.double v0), .second, .val (.double v1), .second, .val (.double v2), .second, .val (.double jk), .second, .val (.ref sv), .val (.ref c1), .val (.ref c2)] [(.ref c1)])) _
    refine lnG XM hx hZ eM GM (z := dm) (back32 hdn).1 (g := (mkF m 387 #[.val (.int q1), .val (.int q2), .val (.int q3), .val (.int q4), .val (.int q5), .val (.int k), .val (.int av), .val (.int p0), .val (.int p1), .val (.int p2), .val (.int xt), .val (.int lst), .val (.int dm), .val (.double v0), .second, .val (.double v1), .second, .val (.double v2), .second, .val (.double jk), .second, .val (.ref sv), .val (.ref c1), .val (.ref c2)] [(.ref c1)])) rfl rfl (hb hby at_387) _ ?_
    show Steps p.tables e below (TM.setTop (mkF m 388 #[.val (.int q1), .val (.int q2), .val (.int q3), .val (.int q4), .val (.int q5), .val (.int k), .val (.int av), .val (.int p0), .val (.int p1), .val (.int p2), .val (.int xt), .val (.int lst), .val (.int dm), .val (.double v0), .second, .val (.double v1), .second, .val (.double v2), .second, .val (.double jk), .second, .val (.ref sv), .val (.ref c1), .val (.ref c2)] [(.int dm)])) _
    refine XS.iload XM.here hx rfl (hb hby at_388) rfl ?_
    show Steps p.tables e below (TM.setTop (mkF m 390 #[.val (.int q1), .val (.int q2), .val (.int q3), .val (.int q4), .val (.int q5), .val (.int k), .val (.int av), .val (.int p0), .val (.int p1), .val (.int p2), .val (.int xt), .val (.int lst), .val (.int dm), .val (.double v0), .second, .val (.double v1), .second, .val (.double v2), .second, .val (.double jk), .second, .val (.ref sv), .val (.ref c1), .val (.ref c2)] [(.int dm), (.int dm)])) _
    refine XS.icmpYes XM.here hx rfl (pc0 := 390) (pc' := 395) rfl (hb hby at_390) rfl (teq rfl).1 (by decide) (by decide) ?_
    show Steps p.tables e below (TM.setTop (mkF m 395 #[.val (.int q1), .val (.int q2), .val (.int q3), .val (.int q4), .val (.int q5), .val (.int k), .val (.int av), .val (.int p0), .val (.int p1), .val (.int p2), .val (.int xt), .val (.int lst), .val (.int dm), .val (.double v0), .second, .val (.double v1), .second, .val (.double v2), .second, .val (.double jk), .second, .val (.ref sv), .val (.ref c1), .val (.ref c2)] [])) _
    refine XS.aload XM.here hx rfl (hb hby at_395) rfl rfl ?_
    show Steps p.tables e below (TM.setTop (mkF m 397 #[.val (.int q1), .val (.int q2), .val (.int q3), .val (.int q4), .val (.int q5), .val (.int k), .val (.int av), .val (.int p0), .val (.int p1), .val (.int p2), .val (.int xt), .val (.int lst), .val (.int dm), .val (.double v0), .second, .val (.double v1), .second, .val (.double v2), .second, .val (.double jk), .second, .val (.ref sv), .val (.ref c1), .val (.ref c2)] [(.ref c1)])) _
    refine XS.iconst XM.here hx rfl (hb hby at_397) ?_
    show Steps p.tables e below (TM.setTop (mkF m 398 #[.val (.int q1), .val (.int q2), .val (.int q3), .val (.int q4), .val (.int q5), .val (.int k), .val (.int av), .val (.int p0), .val (.int p1), .val (.int p2), .val (.int xt), .val (.int lst), .val (.int dm), .val (.double v0), .second, .val (.double v1), .second, .val (.double v2), .second, .val (.double jk), .second, .val (.ref sv), .val (.ref c1), .val (.ref c2)] [(.int (0 : Int32)), (.ref c1)])) _
    refine XS.iload XM.here hx rfl (hb hby at_398) rfl ?_
    show Steps p.tables e below (TM.setTop (mkF m 400 #[.val (.int q1), .val (.int q2), .val (.int q3), .val (.int q4), .val (.int q5), .val (.int k), .val (.int av), .val (.int p0), .val (.int p1), .val (.int p2), .val (.int xt), .val (.int lst), .val (.int dm), .val (.double v0), .second, .val (.double v1), .second, .val (.double v2), .second, .val (.double jk), .second, .val (.ref sv), .val (.ref c1), .val (.ref c2)] [(.int k), (.int (0 : Int32)), (.ref c1)])) _
    refine XS.iload XM.here hx rfl (hb hby at_400) rfl ?_
    show Steps p.tables e below (TM.setTop (mkF m 402 #[.val (.int q1), .val (.int q2), .val (.int q3), .val (.int q4), .val (.int q5), .val (.int k), .val (.int av), .val (.int p0), .val (.int p1), .val (.int p2), .val (.int xt), .val (.int lst), .val (.int dm), .val (.double v0), .second, .val (.double v1), .second, .val (.double v2), .second, .val (.double jk), .second, .val (.ref sv), .val (.ref c1), .val (.ref c2)] [(.int p0), (.int k), (.int (0 : Int32)), (.ref c1)])) _
    refine XS.iload XM.here hx rfl (hb hby at_402) rfl ?_
    show Steps p.tables e below (TM.setTop (mkF m 404 #[.val (.int q1), .val (.int q2), .val (.int q3), .val (.int q4), .val (.int q5), .val (.int k), .val (.int av), .val (.int p0), .val (.int p1), .val (.int p2), .val (.int xt), .val (.int lst), .val (.int dm), .val (.double v0), .second, .val (.double v1), .second, .val (.double v2), .second, .val (.double jk), .second, .val (.ref sv), .val (.ref c1), .val (.ref c2)] [(.int p1), (.int p0), (.int k), (.int (0 : Int32)), (.ref c1)])) _
    refine XS.iload XM.here hx rfl (hb hby at_404) rfl ?_
    show Steps p.tables e below (TM.setTop (mkF m 406 #[.val (.int q1), .val (.int q2), .val (.int q3), .val (.int q4), .val (.int q5), .val (.int k), .val (.int av), .val (.int p0), .val (.int p1), .val (.int p2), .val (.int xt), .val (.int lst), .val (.int dm), .val (.double v0), .second, .val (.double v1), .second, .val (.double v2), .second, .val (.double jk), .second, .val (.ref sv), .val (.ref c1), .val (.ref c2)] [(.int p2), (.int p1), (.int p0), (.int k), (.int (0 : Int32)), (.ref c1)])) _
    refine XS.dload XM.here hx rfl (hb hby at_406) rfl ?_
    show Steps p.tables e below (TM.setTop (mkF m 408 #[.val (.int q1), .val (.int q2), .val (.int q3), .val (.int q4), .val (.int q5), .val (.int k), .val (.int av), .val (.int p0), .val (.int p1), .val (.int p2), .val (.int xt), .val (.int lst), .val (.int dm), .val (.double v0), .second, .val (.double v1), .second, .val (.double v2), .second, .val (.double jk), .second, .val (.ref sv), .val (.ref c1), .val (.ref c2)] [(.double v0), (.int p2), (.int p1), (.int p0), (.int k), (.int (0 : Int32)), (.ref c1)])) _
    refine XS.dload XM.here hx rfl (hb hby at_408) rfl ?_
    show Steps p.tables e below (TM.setTop (mkF m 410 #[.val (.int q1), .val (.int q2), .val (.int q3), .val (.int q4), .val (.int q5), .val (.int k), .val (.int av), .val (.int p0), .val (.int p1), .val (.int p2), .val (.int xt), .val (.int lst), .val (.int dm), .val (.double v0), .second, .val (.double v1), .second, .val (.double v2), .second, .val (.double jk), .second, .val (.ref sv), .val (.ref c1), .val (.ref c2)] [(.double v1), (.double v0), (.int p2), (.int p1), (.int p0), (.int k), (.int (0 : Int32)), (.ref c1)])) _
    refine XS.dload XM.here hx rfl (hb hby at_410) rfl ?_
    exact Steps.refl _
  obtain ⟨_, _, ⟨T298, L298, k298, n298⟩, -, X298, ⟨Lc298, hQ298, l298, y298, z298⟩, st298⟩ := Jvm.LawKit.callS XM hx (y := (⟨"com/example/polytome/polytome/model/SparseVectorToArrayPinLaw", "ok", "([DIIIIIDDD)Z"⟩ : MethodName)) hown (mvT hZ (hw _ (List.mem_of_getElem? (i := 44) rfl))) (mvT hZ (hw _ (List.mem_of_getElem? (i := 45) rfl))) (mvT hZ (hw _ (List.mem_of_getElem? (i := 46) rfl))) (mvT hZ (hw _ (List.mem_of_getElem? (i := 47) rfl))) (by decide) (backOf (W := 0) (rmK l Z a0 hw [] c1 (0 : Int32) k p0 p1 p2 v0 v1 v2 dm (own_c k p0 p1 p2 v0 v1 v2) hM n0 ZM GM bdm.1 (by decide) (fun _ => hce _ (by decide)) (hnn _)) hZ (hw _ (List.mem_of_getElem? (i := 47) rfl)) (hw _ (List.mem_of_getElem? (i := 46) rfl)) (by decide) (by decide)) (g := (mkF m 412 #[.val (.int q1), .val (.int q2), .val (.int q3), .val (.int q4), .val (.int q5), .val (.int k), .val (.int av), .val (.int p0), .val (.int p1), .val (.int p2), .val (.int xt), .val (.int lst), .val (.int dm), .val (.double v0), .second, .val (.double v1), .second, .val (.double v2), .second, .val (.double jk), .second, .val (.ref sv), .val (.ref c1), .val (.ref c2)] [(.double v2), (.double v1), (.double v0), (.int p2), (.int p1), (.int p0), (.int k), (.int (0 : Int32)), (.ref c1)])) rfl (by rw [hml]; rfl) (argsL := [(.ref c1), (.int (0 : Int32)), (.int k), (.int p0), (.int p1), (.int p2), (.double v0), (.double v1), (.double v2)]) (rest := []) (lenOf pd_5 rfl) rfl (by show 2 * 0 + _ ≤ _; exact Nat.le_of_eq rfl) (hb hby at_412) (fun _ _ => ⟨rfl, eM, (by decide : 7 + 0 ≤ _), (by decide : 50 + 0 ≤ _)⟩)
  dsimp only [Pt.U, Pt.locs, Pt.cells, Pt.slots] at X298 l298 y298 z298 st298 hQ298
  subst l298 y298 z298
  obtain ⟨rfl, Nq298, e298⟩ := hQ298
  have N298 := Fr.app NM Nq298
  have r299 : Steps p.tables e below S0 (T298.setTop (mkF m 415 #[.val (.int q1), .val (.int q2), .val (.int q3), .val (.int q4), .val (.int q5), .val (.int k), .val (.int av), .val (.int p0), .val (.int p1), .val (.int p2), .val (.int xt), .val (.int lst), .val (.int dm), .val (.double v0), .second, .val (.double v1), .second, .val (.double v2), .second, .val (.double jk), .second, .val (.ref sv), .val (.ref c1), .val (.ref c2)] [(.int (1 : Int32))])) := r297.trans (st298 _ (Steps.refl _))
  have r300 : Steps p.tables e below S0 (T298.setTop (mkF m 435 #[.val (.int q1), .val (.int q2), .val (.int q3), .val (.int q4), .val (.int q5), .val (.int k), .val (.int av), .val (.int p0), .val (.int p1), .val (.int p2), .val (.int xt), .val (.int lst), .val (.int dm), .val (.double v0), .second, .val (.double v1), .second, .val (.double v2), .second, .val (.double jk), .second, .val (.ref sv), .val (.ref c1), .val (.ref c2)] [(.double v2), (.double v1), (.double v0), (.int p2), (.int p1), (.int p0), (.int k), (.int (1 : Int32)), (.ref c1)])) := by
    refine r299.trans ?_
    show Steps p.tables e below (T298.setTop (mkF m 415 #[.val (.int q1), .val (.int q2), .val (.int q3), .val (.int q4), .val (.int q5), .val (.int k), .val (.int av), .val (.int p0), .val (.int p1), .val (.int p2), .val (.int xt), .val (.int lst), .val (.int dm), .val (.double v0), .second, .val (.double v1), .second, .val (.double v2), .second, .val (.double jk), .second, .val (.ref sv), .val (.ref c1), .val (.ref c2)] [(.int (1 : Int32))])) _
    refine XS.ifNo X298.here hx rfl (hb hby at_415) rfl ((if0 _ _).trans (feq (by decide)).1) ?_
    show Steps p.tables e below (T298.setTop (mkF m 418 #[.val (.int q1), .val (.int q2), .val (.int q3), .val (.int q4), .val (.int q5), .val (.int k), .val (.int av), .val (.int p0), .val (.int p1), .val (.int p2), .val (.int xt), .val (.int lst), .val (.int dm), .val (.double v0), .second, .val (.double v1), .second, .val (.double v2), .second, .val (.double jk), .second, .val (.ref sv), .val (.ref c1), .val (.ref c2)] [])) _
    refine XS.aload X298.here hx rfl (hb hby at_418) rfl rfl ?_
    show Steps p.tables e below (T298.setTop (mkF m 420 #[.val (.int q1), .val (.int q2), .val (.int q3), .val (.int q4), .val (.int q5), .val (.int k), .val (.int av), .val (.int p0), .val (.int p1), .val (.int p2), .val (.int xt), .val (.int lst), .val (.int dm), .val (.double v0), .second, .val (.double v1), .second, .val (.double v2), .second, .val (.double jk), .second, .val (.ref sv), .val (.ref c1), .val (.ref c2)] [(.ref c1)])) _
    refine XS.iconst X298.here hx rfl (hb hby at_420) ?_
    show Steps p.tables e below (T298.setTop (mkF m 421 #[.val (.int q1), .val (.int q2), .val (.int q3), .val (.int q4), .val (.int q5), .val (.int k), .val (.int av), .val (.int p0), .val (.int p1), .val (.int p2), .val (.int xt), .val (.int lst), .val (.int dm), .val (.double v0), .second, .val (.double v1), .second, .val (.double v2), .second, .val (.double jk), .second, .val (.ref sv), .val (.ref c1), .val (.ref c2)] [(.int (1 : Int32)), (.ref c1)])) _
    refine XS.iload X298.here hx rfl (hb hby at_421) rfl ?_
    show Steps p.tables e below (T298.setTop (mkF m 423 #[.val (.int q1), .val (.int q2), .val (.int q3), .val (.int q4), .val (.int q5), .val (.int k), .val (.int av), .val (.int p0), .val (.int p1), .val (.int p2), .val (.int xt), .val (.int lst), .val (.int dm), .val (.double v0), .second, .val (.double v1), .second, .val (.double v2), .second, .val (.double jk), .second, .val (.ref sv), .val (.ref c1), .val (.ref c2)] [(.int k), (.int (1 : Int32)), (.ref c1)])) _
    refine XS.iload X298.here hx rfl (hb hby at_423) rfl ?_
    show Steps p.tables e below (T298.setTop (mkF m 425 #[.val (.int q1), .val (.int q2), .val (.int q3), .val (.int q4), .val (.int q5), .val (.int k), .val (.int av), .val (.int p0), .val (.int p1), .val (.int p2), .val (.int xt), .val (.int lst), .val (.int dm), .val (.double v0), .second, .val (.double v1), .second, .val (.double v2), .second, .val (.double jk), .second, .val (.ref sv), .val (.ref c1), .val (.ref c2)] [(.int p0), (.int k), (.int (1 : Int32)), (.ref c1)])) _
    refine XS.iload X298.here hx rfl (hb hby at_425) rfl ?_
    show Steps p.tables e below (T298.setTop (mkF m 427 #[.val (.int q1), .val (.int q2), .val (.int q3), .val (.int q4), .val (.int q5), .val (.int k), .val (.int av), .val (.int p0), .val (.int p1), .val (.int p2), .val (.int xt), .val (.int lst), .val (.int dm), .val (.double v0), .second, .val (.double v1), .second, .val (.double v2), .second, .val (.double jk), .second, .val (.ref sv), .val (.ref c1), .val (.ref c2)] [(.int p1), (.int p0), (.int k), (.int (1 : Int32)), (.ref c1)])) _
    refine XS.iload X298.here hx rfl (hb hby at_427) rfl ?_
    show Steps p.tables e below (T298.setTop (mkF m 429 #[.val (.int q1), .val (.int q2), .val (.int q3), .val (.int q4), .val (.int q5), .val (.int k), .val (.int av), .val (.int p0), .val (.int p1), .val (.int p2), .val (.int xt), .val (.int lst), .val (.int dm), .val (.double v0), .second, .val (.double v1), .second, .val (.double v2), .second, .val (.double jk), .second, .val (.ref sv), .val (.ref c1), .val (.ref c2)] [(.int p2), (.int p1), (.int p0), (.int k), (.int (1 : Int32)), (.ref c1)])) _
    refine XS.dload X298.here hx rfl (hb hby at_429) rfl ?_
    show Steps p.tables e below (T298.setTop (mkF m 431 #[.val (.int q1), .val (.int q2), .val (.int q3), .val (.int q4), .val (.int q5), .val (.int k), .val (.int av), .val (.int p0), .val (.int p1), .val (.int p2), .val (.int xt), .val (.int lst), .val (.int dm), .val (.double v0), .second, .val (.double v1), .second, .val (.double v2), .second, .val (.double jk), .second, .val (.ref sv), .val (.ref c1), .val (.ref c2)] [(.double v0), (.int p2), (.int p1), (.int p0), (.int k), (.int (1 : Int32)), (.ref c1)])) _
    refine XS.dload X298.here hx rfl (hb hby at_431) rfl ?_
    show Steps p.tables e below (T298.setTop (mkF m 433 #[.val (.int q1), .val (.int q2), .val (.int q3), .val (.int q4), .val (.int q5), .val (.int k), .val (.int av), .val (.int p0), .val (.int p1), .val (.int p2), .val (.int xt), .val (.int lst), .val (.int dm), .val (.double v0), .second, .val (.double v1), .second, .val (.double v2), .second, .val (.double jk), .second, .val (.ref sv), .val (.ref c1), .val (.ref c2)] [(.double v1), (.double v0), (.int p2), (.int p1), (.int p0), (.int k), (.int (1 : Int32)), (.ref c1)])) _
    refine XS.dload X298.here hx rfl (hb hby at_433) rfl ?_
    exact Steps.refl _
  obtain ⟨_, _, ⟨T301, L301, k301, n301⟩, -, X301, ⟨Lc301, hQ301, l301, y301, z301⟩, st301⟩ := Jvm.LawKit.callS X298 hx (y := (⟨"com/example/polytome/polytome/model/SparseVectorToArrayPinLaw", "ok", "([DIIIIIDDD)Z"⟩ : MethodName)) hown (mvT hZ (hw _ (List.mem_of_getElem? (i := 44) rfl))) (mvT hZ (hw _ (List.mem_of_getElem? (i := 45) rfl))) (mvT hZ (hw _ (List.mem_of_getElem? (i := 46) rfl))) (mvT hZ (hw _ (List.mem_of_getElem? (i := 47) rfl))) (by decide) (backOf (W := 0) (rmK l Z a0 hw [] c1 (1 : Int32) k p0 p1 p2 v0 v1 v2 dm (own_c k p0 p1 p2 v0 v1 v2) hM n0 ZM GM bdm.1 (by decide) (fun _ => hce _ (by decide)) (hnn _)) hZ (hw _ (List.mem_of_getElem? (i := 47) rfl)) (hw _ (List.mem_of_getElem? (i := 46) rfl)) (by decide) (by decide)) (g := (mkF m 435 #[.val (.int q1), .val (.int q2), .val (.int q3), .val (.int q4), .val (.int q5), .val (.int k), .val (.int av), .val (.int p0), .val (.int p1), .val (.int p2), .val (.int xt), .val (.int lst), .val (.int dm), .val (.double v0), .second, .val (.double v1), .second, .val (.double v2), .second, .val (.double jk), .second, .val (.ref sv), .val (.ref c1), .val (.ref c2)] [(.double v2), (.double v1), (.double v0), (.int p2), (.int p1), (.int p0), (.int k), (.int (1 : Int32)), (.ref c1)])) rfl (by rw [hml]; rfl) (argsL := [(.ref c1), (.int (1 : Int32)), (.int k), (.int p0), (.int p1), (.int p2), (.double v0), (.double v1), (.double v2)]) (rest := []) (lenOf pd_5 rfl) rfl (by show 2 * 0 + _ ≤ _; exact Nat.le_of_eq rfl) (hb hby at_435) (fun _ _ => ⟨rfl, e298, (by decide : (7 + 0) + 0 ≤ _), (by decide : (50 + 0) + 0 ≤ _)⟩)
  dsimp only [Pt.U, Pt.locs, Pt.cells, Pt.slots] at X301 l301 y301 z301 st301 hQ301
  subst l301 y301 z301
  obtain ⟨rfl, Nq301, e301⟩ := hQ301
  have N301 := Fr.app N298 Nq301
  have r302 : Steps p.tables e below S0 (T301.setTop (mkF m 438 #[.val (.int q1), .val (.int q2), .val (.int q3), .val (.int q4), .val (.int q5), .val (.int k), .val (.int av), .val (.int p0), .val (.int p1), .val (.int p2), .val (.int xt), .val (.int lst), .val (.int dm), .val (.double v0), .second, .val (.double v1), .second, .val (.double v2), .second, .val (.double jk), .second, .val (.ref sv), .val (.ref c1), .val (.ref c2)] [(.int (1 : Int32))])) := r300.trans (st301 _ (Steps.refl _))
  have r303 : Steps p.tables e below S0 (T301.setTop (mkF m 458 #[.val (.int q1), .val (.int q2), .val (.int q3), .val (.int q4), .val (.int q5), .val (.int k), .val (.int av), .val (.int p0), .val (.int p1), .val (.int p2), .val (.int xt), .val (.int lst), .val (.int dm), .val (.double v0), .second, .val (.double v1), .second, .val (.double v2), .second, .val (.double jk), .second, .val (.ref sv), .val (.ref c1), .val (.ref c2)] [(.double v2), (.double v1), (.double v0), (.int p2), (.int p1), (.int p0), (.int k), (.int (2 : Int32)), (.ref c1)])) := by
    refine r302.trans ?_
    show Steps p.tables e below (T301.setTop (mkF m 438 #[.val (.int q1), .val (.int q2), .val (.int q3), .val (.int q4), .val (.int q5), .val (.int k), .val (.int av), .val (.int p0), .val (.int p1), .val (.int p2), .val (.int xt), .val (.int lst), .val (.int dm), .val (.double v0), .second, .val (.double v1), .second, .val (.double v2), .second, .val (.double jk), .second, .val (.ref sv), .val (.ref c1), .val (.ref c2)] [(.int (1 : Int32))])) _
    refine XS.ifNo X301.here hx rfl (hb hby at_438) rfl ((if0 _ _).trans (feq (by decide)).1) ?_
    show Steps p.tables e below (T301.setTop (mkF m 441 #[.val (.int q1), .val (.int q2), .val (.int q3), .val (.int q4), .val (.int q5), .val (.int k), .val (.int av), .val (.int p0), .val (.int p1), .val (.int p2), .val (.int xt), .val (.int lst), .val (.int dm), .val (.double v0), .second, .val (.double v1), .second, .val (.double v2), .second, .val (.double jk), .second, .val (.ref sv), .val (.ref c1), .val (.ref c2)] [])) _
    refine XS.aload X301.here hx rfl (hb hby at_441) rfl rfl ?_
    show Steps p.tables e below (T301.setTop (mkF m 443 #[.val (.int q1), .val (.int q2), .val (.int q3), .val (.int q4), .val (.int q5), .val (.int k), .val (.int av), .val (.int p0), .val (.int p1), .val (.int p2), .val (.int xt), .val (.int lst), .val (.int dm), .val (.double v0), .second, .val (.double v1), .second, .val (.double v2), .second, .val (.double jk), .second, .val (.ref sv), .val (.ref c1), .val (.ref c2)] [(.ref c1)])) _
    refine XS.iconst X301.here hx rfl (hb hby at_443) ?_
    show Steps p.tables e below (T301.setTop (mkF m 444 #[.val (.int q1), .val (.int q2), .val (.int q3), .val (.int q4), .val (.int q5), .val (.int k), .val (.int av), .val (.int p0), .val (.int p1), .val (.int p2), .val (.int xt), .val (.int lst), .val (.int dm), .val (.double v0), .second, .val (.double v1), .second, .val (.double v2), .second, .val (.double jk), .second, .val (.ref sv), .val (.ref c1), .val (.ref c2)] [(.int (2 : Int32)), (.ref c1)])) _
    refine XS.iload X301.here hx rfl (hb hby at_444) rfl ?_
    show Steps p.tables e below (T301.setTop (mkF m 446 #[.val (.int q1), .val (.int q2), .val (.int q3), .val (.int q4), .val (.int q5), .val (.int k), .val (.int av), .val (.int p0), .val (.int p1), .val (.int p2), .val (.int xt), .val (.int lst), .val (.int dm), .val (.double v0), .second, .val (.double v1), .second, .val (.double v2), .second, .val (.double jk), .second, .val (.ref sv), .val (.ref c1), .val (.ref c2)] [(.int k), (.int (2 : Int32)), (.ref c1)])) _
    refine XS.iload X301.here hx rfl (hb hby at_446) rfl ?_
    show Steps p.tables e below (T301.setTop (mkF m 448 #[.val (.int q1), .val (.int q2), .val (.int q3), .val (.int q4), .val (.int q5), .val (.int k), .val (.int av), .val (.int p0), .val (.int p1), .val (.int p2), .val (.int xt), .val (.int lst), .val (.int dm), .val (.double v0), .second, .val (.double v1), .second, .val (.double v2), .second, .val (.double jk), .second, .val (.ref sv), .val (.ref c1), .val (.ref c2)] [(.int p0), (.int k), (.int (2 : Int32)), (.ref c1)])) _
    refine XS.iload X301.here hx rfl (hb hby at_448) rfl ?_
    show Steps p.tables e below (T301.setTop (mkF m 450 #[.val (.int q1), .val (.int q2), .val (.int q3), .val (.int q4), .val (.int q5), .val (.int k), .val (.int av), .val (.int p0), .val (.int p1), .val (.int p2), .val (.int xt), .val (.int lst), .val (.int dm), .val (.double v0), .second, .val (.double v1), .second, .val (.double v2), .second, .val (.double jk), .second, .val (.ref sv), .val (.ref c1), .val (.ref c2)] [(.int p1), (.int p0), (.int k), (.int (2 : Int32)), (.ref c1)])) _
    refine XS.iload X301.here hx rfl (hb hby at_450) rfl ?_
    show Steps p.tables e below (T301.setTop (mkF m 452 #[.val (.int q1), .val (.int q2), .val (.int q3), .val (.int q4), .val (.int q5), .val (.int k), .val (.int av), .val (.int p0), .val (.int p1), .val (.int p2), .val (.int xt), .val (.int lst), .val (.int dm), .val (.double v0), .second, .val (.double v1), .second, .val (.double v2), .second, .val (.double jk), .second, .val (.ref sv), .val (.ref c1), .val (.ref c2)] [(.int p2), (.int p1), (.int p0), (.int k), (.int (2 : Int32)), (.ref c1)])) _
    refine XS.dload X301.here hx rfl (hb hby at_452) rfl ?_
    show Steps p.tables e below (T301.setTop (mkF m 454 #[.val (.int q1), .val (.int q2), .val (.int q3), .val (.int q4), .val (.int q5), .val (.int k), .val (.int av), .val (.int p0), .val (.int p1), .val (.int p2), .val (.int xt), .val (.int lst), .val (.int dm), .val (.double v0), .second, .val (.double v1), .second, .val (.double v2), .second, .val (.double jk), .second, .val (.ref sv), .val (.ref c1), .val (.ref c2)] [(.double v0), (.int p2), (.int p1), (.int p0), (.int k), (.int (2 : Int32)), (.ref c1)])) _
    refine XS.dload X301.here hx rfl (hb hby at_454) rfl ?_
    show Steps p.tables e below (T301.setTop (mkF m 456 #[.val (.int q1), .val (.int q2), .val (.int q3), .val (.int q4), .val (.int q5), .val (.int k), .val (.int av), .val (.int p0), .val (.int p1), .val (.int p2), .val (.int xt), .val (.int lst), .val (.int dm), .val (.double v0), .second, .val (.double v1), .second, .val (.double v2), .second, .val (.double jk), .second, .val (.ref sv), .val (.ref c1), .val (.ref c2)] [(.double v1), (.double v0), (.int p2), (.int p1), (.int p0), (.int k), (.int (2 : Int32)), (.ref c1)])) _
    refine XS.dload X301.here hx rfl (hb hby at_456) rfl ?_
    exact Steps.refl _
  obtain ⟨_, _, ⟨T304, L304, k304, n304⟩, -, X304, ⟨Lc304, hQ304, l304, y304, z304⟩, st304⟩ := Jvm.LawKit.callS X301 hx (y := (⟨"com/example/polytome/polytome/model/SparseVectorToArrayPinLaw", "ok", "([DIIIIIDDD)Z"⟩ : MethodName)) hown (mvT hZ (hw _ (List.mem_of_getElem? (i := 44) rfl))) (mvT hZ (hw _ (List.mem_of_getElem? (i := 45) rfl))) (mvT hZ (hw _ (List.mem_of_getElem? (i := 46) rfl))) (mvT hZ (hw _ (List.mem_of_getElem? (i := 47) rfl))) (by decide) (backOf (W := 0) (rmK l Z a0 hw [] c1 (2 : Int32) k p0 p1 p2 v0 v1 v2 dm (own_c k p0 p1 p2 v0 v1 v2) hM n0 ZM GM bdm.1 (by decide) (fun _ => hce _ (by decide)) (hnn _)) hZ (hw _ (List.mem_of_getElem? (i := 47) rfl)) (hw _ (List.mem_of_getElem? (i := 46) rfl)) (by decide) (by decide)) (g := (mkF m 458 #[.val (.int q1), .val (.int q2), .val (.int q3), .val (.int q4), .val (.int q5), .val (.int k), .val (.int av), .val (.int p0), .val (.int p1), .val (.int p2), .val (.int xt), .val (.int lst), .val (.int dm), .val (.double v0), .second, .val (.double v1), .second, .val (.double v2), .second, .val (.double jk), .second, .val (.ref sv), .val (.ref c1), .val (.ref c2)] [(.double v2), (.double v1), (.double v0), (.int p2), (.int p1), (.int p0), (.int k), (.int (2 : Int32)), (.ref c1)])) rfl (by rw [hml]; rfl) (argsL := [(.ref c1), (.int (2 : Int32)), (.int k), (.int p0), (.int p1), (.int p2), (.double v0), (.double v1), (.double v2)]) (rest := []) (lenOf pd_5 rfl) rfl (by show 2 * 0 + _ ≤ _; exact Nat.le_of_eq rfl) (hb hby at_458) (fun _ _ => ⟨rfl, e301, (by decide : ((7 + 0) + 0) + 0 ≤ _), (by decide : ((50 + 0) + 0) + 0 ≤ _)⟩)
  dsimp only [Pt.U, Pt.locs, Pt.cells, Pt.slots] at X304 l304 y304 z304 st304 hQ304
  subst l304 y304 z304
  obtain ⟨rfl, Nq304, e304⟩ := hQ304
  have N304 := Fr.app N301 Nq304
  have r305 : Steps p.tables e below S0 (T304.setTop (mkF m 461 #[.val (.int q1), .val (.int q2), .val (.int q3), .val (.int q4), .val (.int q5), .val (.int k), .val (.int av), .val (.int p0), .val (.int p1), .val (.int p2), .val (.int xt), .val (.int lst), .val (.int dm), .val (.double v0), .second, .val (.double v1), .second, .val (.double v2), .second, .val (.double jk), .second, .val (.ref sv), .val (.ref c1), .val (.ref c2)] [(.int (1 : Int32))])) := r303.trans (st304 _ (Steps.refl _))
  have r306 : Steps p.tables e below S0 (T304.setTop (mkF m 481 #[.val (.int q1), .val (.int q2), .val (.int q3), .val (.int q4), .val (.int q5), .val (.int k), .val (.int av), .val (.int p0), .val (.int p1), .val (.int p2), .val (.int xt), .val (.int lst), .val (.int dm), .val (.double v0), .second, .val (.double v1), .second, .val (.double v2), .second, .val (.double jk), .second, .val (.ref sv), .val (.ref c1), .val (.ref c2)] [(.double v2), (.double v1), (.double v0), (.int p2), (.int p1), (.int p0), (.int k), (.int (3 : Int32)), (.ref c1)])) := by
    refine r305.trans ?_
    show Steps p.tables e below (T304.setTop (mkF m 461 #[.val (.int q1), .val (.int q2), .val (.int q3), .val (.int q4), .val (.int q5), .val (.int k), .val (.int av), .val (.int p0), .val (.int p1), .val (.int p2), .val (.int xt), .val (.int lst), .val (.int dm), .val (.double v0), .second, .val (.double v1), .second, .val (.double v2), .second, .val (.double jk), .second, .val (.ref sv), .val (.ref c1), .val (.ref c2)] [(.int (1 : Int32))])) _
    refine XS.ifNo X304.here hx rfl (hb hby at_461) rfl ((if0 _ _).trans (feq (by decide)).1) ?_
    show Steps p.tables e below (T304.setTop (mkF m 464 #[.val (.int q1), .val (.int q2), .val (.int q3), .val (.int q4), .val (.int q5), .val (.int k), .val (.int av), .val (.int p0), .val (.int p1), .val (.int p2), .val (.int xt), .val (.int lst), .val (.int dm), .val (.double v0), .second, .val (.double v1), .second, .val (.double v2), .second, .val (.double jk), .second, .val (.ref sv), .val (.ref c1), .val (.ref c2)] [])) _
    refine XS.aload X304.here hx rfl (hb hby at_464) rfl rfl ?_
    show Steps p.tables e below (T304.setTop (mkF m 466 #[.val (.int q1), .val (.int q2), .val (.int q3), .val (.int q4), .val (.int q5), .val (.int k), .val (.int av), .val (.int p0), .val (.int p1), .val (.int p2), .val (.int xt), .val (.int lst), .val (.int dm), .val (.double v0), .second, .val (.double v1), .second, .val (.double v2), .second, .val (.double jk), .second, .val (.ref sv), .val (.ref c1), .val (.ref c2)] [(.ref c1)])) _
    refine XS.iconst X304.here hx rfl (hb hby at_466) ?_
    show Steps p.tables e below (T304.setTop (mkF m 467 #[.val (.int q1), .val (.int q2), .val (.int q3), .val (.int q4), .val (.int q5), .val (.int k), .val (.int av), .val (.int p0), .val (.int p1), .val (.int p2), .val (.int xt), .val (.int lst), .val (.int dm), .val (.double v0), .second, .val (.double v1), .second, .val (.double v2), .second, .val (.double jk), .second, .val (.ref sv), .val (.ref c1), .val (.ref c2)] [(.int (3 : Int32)), (.ref c1)])) _
    refine XS.iload X304.here hx rfl (hb hby at_467) rfl ?_
    show Steps p.tables e below (T304.setTop (mkF m 469 #[.val (.int q1), .val (.int q2), .val (.int q3), .val (.int q4), .val (.int q5), .val (.int k), .val (.int av), .val (.int p0), .val (.int p1), .val (.int p2), .val (.int xt), .val (.int lst), .val (.int dm), .val (.double v0), .second, .val (.double v1), .second, .val (.double v2), .second, .val (.double jk), .second, .val (.ref sv), .val (.ref c1), .val (.ref c2)] [(.int k), (.int (3 : Int32)), (.ref c1)])) _
    refine XS.iload X304.here hx rfl (hb hby at_469) rfl ?_
    show Steps p.tables e below (T304.setTop (mkF m 471 #[.val (.int q1), .val (.int q2), .val (.int q3), .val (.int q4), .val (.int q5), .val (.int k), .val (.int av), .val (.int p0), .val (.int p1), .val (.int p2), .val (.int xt), .val (.int lst), .val (.int dm), .val (.double v0), .second, .val (.double v1), .second, .val (.double v2), .second, .val (.double jk), .second, .val (.ref sv), .val (.ref c1), .val (.ref c2)] [(.int p0), (.int k), (.int (3 : Int32)), (.ref c1)])) _
    refine XS.iload X304.here hx rfl (hb hby at_471) rfl ?_
    show Steps p.tables e below (T304.setTop (mkF m 473 #[.val (.int q1), .val (.int q2), .val (.int q3), .val (.int q4), .val (.int q5), .val (.int k), .val (.int av), .val (.int p0), .val (.int p1), .val (.int p2), .val (.int xt), .val (.int lst), .val (.int dm), .val (.double v0), .second, .val (.double v1), .second, .val (.double v2), .second, .val (.double jk), .second, .val (.ref sv), .val (.ref c1), .val (.ref c2)] [(.int p1), (.int p0), (.int k), (.int (3 : Int32)), (.ref c1)])) _
    refine XS.iload X304.here hx rfl (hb hby at_473) rfl ?_
    show Steps p.tables e below (T304.setTop (mkF m 475 #[.val (.int q1), .val (.int q2), .val (.int q3), .val (.int q4), .val (.int q5), .val (.int k), .val (.int av), .val (.int p0), .val (.int p1), .val (.int p2), .val (.int xt), .val (.int lst), .val (.int dm), .val (.double v0), .second, .val (.double v1), .second, .val (.double v2), .second, .val (.double jk), .second, .val (.ref sv), .val (.ref c1), .val (.ref c2)] [(.int p2), (.int p1), (.int p0), (.int k), (.int (3 : Int32)), (.ref c1)])) _
    refine XS.dload X304.here hx rfl (hb hby at_475) rfl ?_
    show Steps p.tables e below (T304.setTop (mkF m 477 #[.val (.int q1), .val (.int q2), .val (.int q3), .val (.int q4), .val (.int q5), .val (.int k), .val (.int av), .val (.int p0), .val (.int p1), .val (.int p2), .val (.int xt), .val (.int lst), .val (.int dm), .val (.double v0), .second, .val (.double v1), .second, .val (.double v2), .second, .val (.double jk), .second, .val (.ref sv), .val (.ref c1), .val (.ref c2)] [(.double v0), (.int p2), (.int p1), (.int p0), (.int k), (.int (3 : Int32)), (.ref c1)])) _
    refine XS.dload X304.here hx rfl (hb hby at_477) rfl ?_
    show Steps p.tables e below (T304.setTop (mkF m 479 #[.val (.int q1), .val (.int q2), .val (.int q3), .val (.int q4), .val (.int q5), .val (.int k), .val (.int av), .val (.int p0), .val (.int p1), .val (.int p2), .val (.int xt), .val (.int lst), .val (.int dm), .val (.double v0), .second, .val (.double v1), .second, .val (.double v2), .second, .val (.double jk), .second, .val (.ref sv), .val (.ref c1), .val (.ref c2)] [(.double v1), (.double v0), (.int p2), (.int p1), (.int p0), (.int k), (.int (3 : Int32)), (.ref c1)])) _
    refine XS.dload X304.here hx rfl (hb hby at_479) rfl ?_
    exact Steps.refl _
  obtain ⟨_, _, ⟨T307, L307, k307, n307⟩, -, X307, ⟨Lc307, hQ307, l307, y307, z307⟩, st307⟩ := Jvm.LawKit.callS X304 hx (y := (⟨"com/example/polytome/polytome/model/SparseVectorToArrayPinLaw", "ok", "([DIIIIIDDD)Z"⟩ : MethodName)) hown (mvT hZ (hw _ (List.mem_of_getElem? (i := 44) rfl))) (mvT hZ (hw _ (List.mem_of_getElem? (i := 45) rfl))) (mvT hZ (hw _ (List.mem_of_getElem? (i := 46) rfl))) (mvT hZ (hw _ (List.mem_of_getElem? (i := 47) rfl))) (by decide) (backOf (W := 0) (rmK l Z a0 hw [] c1 (3 : Int32) k p0 p1 p2 v0 v1 v2 dm (own_c k p0 p1 p2 v0 v1 v2) hM n0 ZM GM bdm.1 (by decide) (fun _ => hce _ (by decide)) (hnn _)) hZ (hw _ (List.mem_of_getElem? (i := 47) rfl)) (hw _ (List.mem_of_getElem? (i := 46) rfl)) (by decide) (by decide)) (g := (mkF m 481 #[.val (.int q1), .val (.int q2), .val (.int q3), .val (.int q4), .val (.int q5), .val (.int k), .val (.int av), .val (.int p0), .val (.int p1), .val (.int p2), .val (.int xt), .val (.int lst), .val (.int dm), .val (.double v0), .second, .val (.double v1), .second, .val (.double v2), .second, .val (.double jk), .second, .val (.ref sv), .val (.ref c1), .val (.ref c2)] [(.double v2), (.double v1), (.double v0), (.int p2), (.int p1), (.int p0), (.int k), (.int (3 : Int32)), (.ref c1)])) rfl (by rw [hml]; rfl) (argsL := [(.ref c1), (.int (3 : Int32)), (.int k), (.int p0), (.int p1), (.int p2), (.double v0), (.double v1), (.double v2)]) (rest := []) (lenOf pd_5 rfl) rfl (by show 2 * 0 + _ ≤ _; exact Nat.le_of_eq rfl) (hb hby at_481) (fun _ _ => ⟨rfl, e304, (by decide : (((7 + 0) + 0) + 0) + 0 ≤ _), (by decide : (((50 + 0) + 0) + 0) + 0 ≤ _)⟩)
  dsimp only [Pt.U, Pt.locs, Pt.cells, Pt.slots] at X307 l307 y307 z307 st307 hQ307
  subst l307 y307 z307
  obtain ⟨rfl, Nq307, e307⟩ := hQ307
  have N307 := Fr.app N304 Nq307
  have r308 : Steps p.tables e below S0 (T307.setTop (mkF m 484 #[.val (.int q1), .val (.int q2), .val (.int q3), .val (.int q4), .val (.int q5), .val (.int k), .val (.int av), .val (.int p0), .val (.int p1), .val (.int p2), .val (.int xt), .val (.int lst), .val (.int dm), .val (.double v0), .second, .val (.double v1), .second, .val (.double v2), .second, .val (.double jk), .second, .val (.ref sv), .val (.ref c1), .val (.ref c2)] [(.int (1 : Int32))])) := r306.trans (st307 _ (Steps.refl _))
  have r309 : Steps p.tables e below S0 (T307.setTop (mkF m 504 #[.val (.int q1), .val (.int q2), .val (.int q3), .val (.int q4), .val (.int q5), .val (.int k), .val (.int av), .val (.int p0), .val (.int p1), .val (.int p2), .val (.int xt), .val (.int lst), .val (.int dm), .val (.double v0), .second, .val (.double v1), .second, .val (.double v2), .second, .val (.double jk), .second, .val (.ref sv), .val (.ref c1), .val (.ref c2)] [(.double v2), (.double v1), (.double v0), (.int p2), (.int p1), (.int p0), (.int k), (.int (4 : Int32)), (.ref c1)])) := by
    refine r308.trans ?_
    show Steps p.tables e below (T307.setTop (mkF m 484 #[.val (.int q1), .val (.int q2), .val (.int q3), .val (.int q4), .val (.int q5), .val (.int k), .val (.int av), .val (.int p0), .val (.int p1), .val (.int p2), .val (.int xt), .val (.int lst), .val (.int dm), .val (.double v0), .second, .val (.double v1), .second, .val (.double v2), .second, .val (.double jk), .second, .val (.ref sv), .val (.ref c1), .val (.ref c2)] [(.int (1 : Int32))])) _
    refine XS.ifNo X307.here hx rfl (hb hby at_484) rfl ((if0 _ _).trans (feq (by decide)).1) ?_
    show Steps p.tables e below (T307.setTop (mkF m 487 #[.val (.int q1), .val (.int q2), .val (.int q3), .val (.int q4), .val (.int q5), .val (.int k), .val (.int av), .val (.int p0), .val (.int p1), .val (.int p2), .val (.int xt), .val (.int lst), .val (.int dm), .val (.double v0), .second, .val (.double v1), .second, .val (.double v2), .second, .val (.double jk), .second, .val (.ref sv), .val (.ref c1), .val (.ref c2)] [])) _
    refine XS.aload X307.here hx rfl (hb hby at_487) rfl rfl ?_
    show Steps p.tables e below (T307.setTop (mkF m 489 #[.val (.int q1), .val (.int q2), .val (.int q3), .val (.int q4), .val (.int q5), .val (.int k), .val (.int av), .val (.int p0), .val (.int p1), .val (.int p2), .val (.int xt), .val (.int lst), .val (.int dm), .val (.double v0), .second, .val (.double v1), .second, .val (.double v2), .second, .val (.double jk), .second, .val (.ref sv), .val (.ref c1), .val (.ref c2)] [(.ref c1)])) _
    refine XS.iconst X307.here hx rfl (hb hby at_489) ?_
    show Steps p.tables e below (T307.setTop (mkF m 490 #[.val (.int q1), .val (.int q2), .val (.int q3), .val (.int q4), .val (.int q5), .val (.int k), .val (.int av), .val (.int p0), .val (.int p1), .val (.int p2), .val (.int xt), .val (.int lst), .val (.int dm), .val (.double v0), .second, .val (.double v1), .second, .val (.double v2), .second, .val (.double jk), .second, .val (.ref sv), .val (.ref c1), .val (.ref c2)] [(.int (4 : Int32)), (.ref c1)])) _
    refine XS.iload X307.here hx rfl (hb hby at_490) rfl ?_
    show Steps p.tables e below (T307.setTop (mkF m 492 #[.val (.int q1), .val (.int q2), .val (.int q3), .val (.int q4), .val (.int q5), .val (.int k), .val (.int av), .val (.int p0), .val (.int p1), .val (.int p2), .val (.int xt), .val (.int lst), .val (.int dm), .val (.double v0), .second, .val (.double v1), .second, .val (.double v2), .second, .val (.double jk), .second, .val (.ref sv), .val (.ref c1), .val (.ref c2)] [(.int k), (.int (4 : Int32)), (.ref c1)])) _
    refine XS.iload X307.here hx rfl (hb hby at_492) rfl ?_
    show Steps p.tables e below (T307.setTop (mkF m 494 #[.val (.int q1), .val (.int q2), .val (.int q3), .val (.int q4), .val (.int q5), .val (.int k), .val (.int av), .val (.int p0), .val (.int p1), .val (.int p2), .val (.int xt), .val (.int lst), .val (.int dm), .val (.double v0), .second, .val (.double v1), .second, .val (.double v2), .second, .val (.double jk), .second, .val (.ref sv), .val (.ref c1), .val (.ref c2)] [(.int p0), (.int k), (.int (4 : Int32)), (.ref c1)])) _
    refine XS.iload X307.here hx rfl (hb hby at_494) rfl ?_
    show Steps p.tables e below (T307.setTop (mkF m 496 #[.val (.int q1), .val (.int q2), .val (.int q3), .val (.int q4), .val (.int q5), .val (.int k), .val (.int av), .val (.int p0), .val (.int p1), .val (.int p2), .val (.int xt), .val (.int lst), .val (.int dm), .val (.double v0), .second, .val (.double v1), .second, .val (.double v2), .second, .val (.double jk), .second, .val (.ref sv), .val (.ref c1), .val (.ref c2)] [(.int p1), (.int p0), (.int k), (.int (4 : Int32)), (.ref c1)])) _
    refine XS.iload X307.here hx rfl (hb hby at_496) rfl ?_
    show Steps p.tables e below (T307.setTop (mkF m 498 #[.val (.int q1), .val (.int q2), .val (.int q3), .val (.int q4), .val (.int q5), .val (.int k), .val (.int av), .val (.int p0), .val (.int p1), .val (.int p2), .val (.int xt), .val (.int lst), .val (.int dm), .val (.double v0), .second, .val (.double v1), .second, .val (.double v2), .second, .val (.double jk), .second, .val (.ref sv), .val (.ref c1), .val (.ref c2)] [(.int p2), (.int p1), (.int p0), (.int k), (.int (4 : Int32)), (.ref c1)])) _
    refine XS.dload X307.here hx rfl (hb hby at_498) rfl ?_
    show Steps p.tables e below (T307.setTop (mkF m 500 #[.val (.int q1), .val (.int q2), .val (.int q3), .val (.int q4), .val (.int q5), .val (.int k), .val (.int av), .val (.int p0), .val (.int p1), .val (.int p2), .val (.int xt), .val (.int lst), .val (.int dm), .val (.double v0), .second, .val (.double v1), .second, .val (.double v2), .second, .val (.double jk), .second, .val (.ref sv), .val (.ref c1), .val (.ref c2)] [(.double v0), (.int p2), (.int p1), (.int p0), (.int k), (.int (4 : Int32)), (.ref c1)])) _
    refine XS.dload X307.here hx rfl (hb hby at_500) rfl ?_
    show Steps p.tables e below (T307.setTop (mkF m 502 #[.val (.int q1), .val (.int q2), .val (.int q3), .val (.int q4), .val (.int q5), .val (.int k), .val (.int av), .val (.int p0), .val (.int p1), .val (.int p2), .val (.int xt), .val (.int lst), .val (.int dm), .val (.double v0), .second, .val (.double v1), .second, .val (.double v2), .second, .val (.double jk), .second, .val (.ref sv), .val (.ref c1), .val (.ref c2)] [(.double v1), (.double v0), (.int p2), (.int p1), (.int p0), (.int k), (.int (4 : Int32)), (.ref c1)])) _
    refine XS.dload X307.here hx rfl (hb hby at_502) rfl ?_
    exact Steps.refl _
  obtain ⟨_, _, ⟨T310, L310, k310, n310⟩, -, X310, ⟨Lc310, hQ310, l310, y310, z310⟩, st310⟩ := Jvm.LawKit.callS X307 hx (y := (⟨"com/example/polytome/polytome/model/SparseVectorToArrayPinLaw", "ok", "([DIIIIIDDD)Z"⟩ : MethodName)) hown (mvT hZ (hw _ (List.mem_of_getElem? (i := 44) rfl))) (mvT hZ (hw _ (List.mem_of_getElem? (i := 45) rfl))) (mvT hZ (hw _ (List.mem_of_getElem? (i := 46) rfl))) (mvT hZ (hw _ (List.mem_of_getElem? (i := 47) rfl))) (by decide) (backOf (W := 0) (rmK l Z a0 hw [] c1 (4 : Int32) k p0 p1 p2 v0 v1 v2 dm (own_c k p0 p1 p2 v0 v1 v2) hM n0 ZM GM bdm.1 (by decide) (fun _ => hce _ (by decide)) (hnn _)) hZ (hw _ (List.mem_of_getElem? (i := 47) rfl)) (hw _ (List.mem_of_getElem? (i := 46) rfl)) (by decide) (by decide)) (g := (mkF m 504 #[.val (.int q1), .val (.int q2), .val (.int q3), .val (.int q4), .val (.int q5), .val (.int k), .val (.int av), .val (.int p0), .val (.int p1), .val (.int p2), .val (.int xt), .val (.int lst), .val (.int dm), .val (.double v0), .second, .val (.double v1), .second, .val (.double v2), .second, .val (.double jk), .second, .val (.ref sv), .val (.ref c1), .val (.ref c2)] [(.double v2), (.double v1), (.double v0), (.int p2), (.int p1), (.int p0), (.int k), (.int (4 : Int32)), (.ref c1)])) rfl (by rw [hml]; rfl) (argsL := [(.ref c1), (.int (4 : Int32)), (.int k), (.int p0), (.int p1), (.int p2), (.double v0), (.double v1), (.double v2)]) (rest := []) (lenOf pd_5 rfl) rfl (by show 2 * 0 + _ ≤ _; exact Nat.le_of_eq rfl) (hb hby at_504) (fun _ _ => ⟨rfl, e307, (by decide : ((((7 + 0) + 0) + 0) + 0) + 0 ≤ _), (by decide : ((((50 + 0) + 0) + 0) + 0) + 0 ≤ _)⟩)
  dsimp only [Pt.U, Pt.locs, Pt.cells, Pt.slots] at X310 l310 y310 z310 st310 hQ310
  subst l310 y310 z310
  obtain ⟨rfl, Nq310, e310⟩ := hQ310
  have N310 := Fr.app N307 Nq310
  have r311 : Steps p.tables e below S0 (T310.setTop (mkF m 507 #[.val (.int q1), .val (.int q2), .val (.int q3), .val (.int q4), .val (.int q5), .val (.int k), .val (.int av), .val (.int p0), .val (.int p1), .val (.int p2), .val (.int xt), .val (.int lst), .val (.int dm), .val (.double v0), .second, .val (.double v1), .second, .val (.double v2), .second, .val (.double jk), .second, .val (.ref sv), .val (.ref c1), .val (.ref c2)] [(.int (1 : Int32))])) := r309.trans (st310 _ (Steps.refl _))
  have r312 : Steps p.tables e below S0 (T310.setTop (mkF m 527 #[.val (.int q1), .val (.int q2), .val (.int q3), .val (.int q4), .val (.int q5), .val (.int k), .val (.int av), .val (.int p0), .val (.int p1), .val (.int p2), .val (.int xt), .val (.int lst), .val (.int dm), .val (.double v0), .second, .val (.double v1), .second, .val (.double v2), .second, .val (.double jk), .second, .val (.ref sv), .val (.ref c1), .val (.ref c2)] [(.double v2), (.double v1), (.double v0), (.int p2), (.int p1), (.int p0), (.int k), (.int (5 : Int32)), (.ref c1)])) := by
    refine r311.trans ?_
    show Steps p.tables e below (T310.setTop (mkF m 507 #[.val (.int q1), .val (.int q2), .val (.int q3), .val (.int q4), .val (.int q5), .val (.int k), .val (.int av), .val (.int p0), .val (.int p1), .val (.int p2), .val (.int xt), .val (.int lst), .val (.int dm), .val (.double v0), .second, .val (.double v1), .second, .val (.double v2), .second, .val (.double jk), .second, .val (.ref sv), .val (.ref c1), .val (.ref c2)] [(.int (1 : Int32))])) _
    refine XS.ifNo X310.here hx rfl (hb hby at_507) rfl ((if0 _ _).trans (feq (by decide)).1) ?_
    show Steps p.tables e below (T310.setTop (mkF m 510 #[.val (.int q1), .val (.int q2), .val (.int q3), .val (.int q4), .val (.int q5), .val (.int k), .val (.int av), .val (.int p0), .val (.int p1), .val (.int p2), .val (.int xt), .val (.int lst), .val (.int dm), .val (.double v0), .second, .val (.double v1), .second, .val (.double v2), .second, .val (.double jk), .second, .val (.ref sv), .val (.ref c1), .val (.ref c2)] [])) _
    refine XS.aload X310.here hx rfl (hb hby at_510) rfl rfl ?_
    show Steps p.tables e below (T310.setTop (mkF m 512 #[.val (.int q1), .val (.int q2), .val (.int q3), .val (.int q4), .val (.int q5), .val (.int k), .val (.int av), .val (.int p0), .val (.int p1), .val (.int p2), .val (.int xt), .val (.int lst), .val (.int dm), .val (.double v0), .second, .val (.double v1), .second, .val (.double v2), .second, .val (.double jk), .second, .val (.ref sv), .val (.ref c1), .val (.ref c2)] [(.ref c1)])) _
    refine XS.iconst X310.here hx rfl (hb hby at_512) ?_
    show Steps p.tables e below (T310.setTop (mkF m 513 #[.val (.int q1), .val (.int q2), .val (.int q3), .val (.int q4), .val (.int q5), .val (.int k), .val (.int av), .val (.int p0), .val (.int p1), .val (.int p2), .val (.int xt), .val (.int lst), .val (.int dm), .val (.double v0), .second, .val (.double v1), .second, .val (.double v2), .second, .val (.double jk), .second, .val (.ref sv), .val (.ref c1), .val (.ref c2)] [(.int (5 : Int32)), (.ref c1)])) _
    refine XS.iload X310.here hx rfl (hb hby at_513) rfl ?_
    show Steps p.tables e below (T310.setTop (mkF m 515 #[.val (.int q1), .val (.int q2), .val (.int q3), .val (.int q4), .val (.int q5), .val (.int k), .val (.int av), .val (.int p0), .val (.int p1), .val (.int p2), .val (.int xt), .val (.int lst), .val (.int dm), .val (.double v0), .second, .val (.double v1), .second, .val (.double v2), .second, .val (.double jk), .second, .val (.ref sv), .val (.ref c1), .val (.ref c2)] [(.int k), (.int (5 : Int32)), (.ref c1)])) _
    refine XS.iload X310.here hx rfl (hb hby at_515) rfl ?_
    show Steps p.tables e below (T310.setTop (mkF m 517 #[.val (.int q1), .val (.int q2), .val (.int q3), .val (.int q4), .val (.int q5), .val (.int k), .val (.int av), .val (.int p0), .val (.int p1), .val (.int p2), .val (.int xt), .val (.int lst), .val (.int dm), .val (.double v0), .second, .val (.double v1), .second, .val (.double v2), .second, .val (.double jk), .second, .val (.ref sv), .val (.ref c1), .val (.ref c2)] [(.int p0), (.int k), (.int (5 : Int32)), (.ref c1)])) _
    refine XS.iload X310.here hx rfl (hb hby at_517) rfl ?_
    show Steps p.tables e below (T310.setTop (mkF m 519 #[.val (.int q1), .val (.int q2), .val (.int q3), .val (.int q4), .val (.int q5), .val (.int k), .val (.int av), .val (.int p0), .val (.int p1), .val (.int p2), .val (.int xt), .val (.int lst), .val (.int dm), .val (.double v0), .second, .val (.double v1), .second, .val (.double v2), .second, .val (.double jk), .second, .val (.ref sv), .val (.ref c1), .val (.ref c2)] [(.int p1), (.int p0), (.int k), (.int (5 : Int32)), (.ref c1)])) _
    refine XS.iload X310.here hx rfl (hb hby at_519) rfl ?_
    show Steps p.tables e below (T310.setTop (mkF m 521 #[.val (.int q1), .val (.int q2), .val (.int q3), .val (.int q4), .val (.int q5), .val (.int k), .val (.int av), .val (.int p0), .val (.int p1), .val (.int p2), .val (.int xt), .val (.int lst), .val (.int dm), .val (.double v0), .second, .val (.double v1), .second, .val (.double v2), .second, .val (.double jk), .second, .val (.ref sv), .val (.ref c1), .val (.ref c2)] [(.int p2), (.int p1), (.int p0), (.int k), (.int (5 : Int32)), (.ref c1)])) _
    refine XS.dload X310.here hx rfl (hb hby at_521) rfl ?_
    show Steps p.tables e below (T310.setTop (mkF m 523 #[.val (.int q1), .val (.int q2), .val (.int q3), .val (.int q4), .val (.int q5), .val (.int k), .val (.int av), .val (.int p0), .val (.int p1), .val (.int p2), .val (.int xt), .val (.int lst), .val (.int dm), .val (.double v0), .second, .val (.double v1), .second, .val (.double v2), .second, .val (.double jk), .second, .val (.ref sv), .val (.ref c1), .val (.ref c2)] [(.double v0), (.int p2), (.int p1), (.int p0), (.int k), (.int (5 : Int32)), (.ref c1)])) _
    refine XS.dload X310.here hx rfl (hb hby at_523) rfl ?_
    show Steps p.tables e below (T310.setTop (mkF m 525 #[.val (.int q1), .val (.int q2), .val (.int q3), .val (.int q4), .val (.int q5), .val (.int k), .val (.int av), .val (.int p0), .val (.int p1), .val (.int p2), .val (.int xt), .val (.int lst), .val (.int dm), .val (.double v0), .second, .val (.double v1), .second, .val (.double v2), .second, .val (.double jk), .second, .val (.ref sv), .val (.ref c1), .val (.ref c2)] [(.double v1), (.double v0), (.int p2), (.int p1), (.int p0), (.int k), (.int (5 : Int32)), (.ref c1)])) _
    refine XS.dload X310.here hx rfl (hb hby at_525) rfl ?_
    exact Steps.refl _
  obtain ⟨_, _, ⟨T313, L313, k313, n313⟩, -, X313, ⟨Lc313, hQ313, l313, y313, z313⟩, st313⟩ := Jvm.LawKit.callS X310 hx (y := (⟨"com/example/polytome/polytome/model/SparseVectorToArrayPinLaw", "ok", "([DIIIIIDDD)Z"⟩ : MethodName)) hown (mvT hZ (hw _ (List.mem_of_getElem? (i := 44) rfl))) (mvT hZ (hw _ (List.mem_of_getElem? (i := 45) rfl))) (mvT hZ (hw _ (List.mem_of_getElem? (i := 46) rfl))) (mvT hZ (hw _ (List.mem_of_getElem? (i := 47) rfl))) (by decide) (backOf (W := 0) (rmK l Z a0 hw [] c1 (5 : Int32) k p0 p1 p2 v0 v1 v2 dm (own_c k p0 p1 p2 v0 v1 v2) hM n0 ZM GM bdm.1 (by decide) (fun _ => hce _ (by decide)) (hnn _)) hZ (hw _ (List.mem_of_getElem? (i := 47) rfl)) (hw _ (List.mem_of_getElem? (i := 46) rfl)) (by decide) (by decide)) (g := (mkF m 527 #[.val (.int q1), .val (.int q2), .val (.int q3), .val (.int q4), .val (.int q5), .val (.int k), .val (.int av), .val (.int p0), .val (.int p1), .val (.int p2), .val (.int xt), .val (.int lst), .val (.int dm), .val (.double v0), .second, .val (.double v1), .second, .val (.double v2), .second, .val (.double jk), .second, .val (.ref sv), .val (.ref c1), .val (.ref c2)] [(.double v2), (.double v1), (.double v0), (.int p2), (.int p1), (.int p0), (.int k), (.int (5 : Int32)), (.ref c1)])) rfl (by rw [hml]; rfl) (argsL := [(.ref c1), (.int (5 : Int32)), (.int k), (.int p0), (.int p1), (.int p2), (.double v0), (.double v1), (.double v2)]) (rest := []) (lenOf pd_5 rfl) rfl (by show 2 * 0 + _ ≤ _; exact Nat.le_of_eq rfl) (hb hby at_527) (fun _ _ => ⟨rfl, e310, (by decide : (((((7 + 0) + 0) + 0) + 0) + 0) + 0 ≤ _), (by decide : (((((50 + 0) + 0) + 0) + 0) + 0) + 0 ≤ _)⟩)
  dsimp only [Pt.U, Pt.locs, Pt.cells, Pt.slots] at X313 l313 y313 z313 st313 hQ313
  subst l313 y313 z313
  obtain ⟨rfl, Nq313, e313⟩ := hQ313
  have N313 := Fr.app N310 Nq313
  have r314 : Steps p.tables e below S0 (T313.setTop (mkF m 530 #[.val (.int q1), .val (.int q2), .val (.int q3), .val (.int q4), .val (.int q5), .val (.int k), .val (.int av), .val (.int p0), .val (.int p1), .val (.int p2), .val (.int xt), .val (.int lst), .val (.int dm), .val (.double v0), .second, .val (.double v1), .second, .val (.double v2), .second, .val (.double jk), .second, .val (.ref sv), .val (.ref c1), .val (.ref c2)] [(.int (1 : Int32))])) := r312.trans (st313 _ (Steps.refl _))
  have r315 : Steps p.tables e below S0 (T313.setTop (mkF m 551 #[.val (.int q1), .val (.int q2), .val (.int q3), .val (.int q4), .val (.int q5), .val (.int k), .val (.int av), .val (.int p0), .val (.int p1), .val (.int p2), .val (.int xt), .val (.int lst), .val (.int dm), .val (.double v0), .second, .val (.double v1), .second, .val (.double v2), .second, .val (.double jk), .second, .val (.ref sv), .val (.ref c1), .val (.ref c2)] [(.double v2), (.double v1), (.double v0), (.int p2), (.int p1), (.int p0), (.int k), (.int (6 : Int32)), (.ref c1)])) := by
    refine r314.trans ?_
    show Steps p.tables e below (T313.setTop (mkF m 530 #[.val (.int q1), .val (.int q2), .val (.int q3), .val (.int q4), .val (.int q5), .val (.int k), .val (.int av), .val (.int p0), .val (.int p1), .val (.int p2), .val (.int xt), .val (.int lst), .val (.int dm), .val (.double v0), .second, .val (.double v1), .second, .val (.double v2), .second, .val (.double jk), .second, .val (.ref sv), .val (.ref c1), .val (.ref c2)] [(.int (1 : Int32))])) _
    refine XS.ifNo X313.here hx rfl (hb hby at_530) rfl ((if0 _ _).trans (feq (by decide)).1) ?_
    show Steps p.tables e below (T313.setTop (mkF m 533 #[.val (.int q1), .val (.int q2), .val (.int q3), .val (.int q4), .val (.int q5), .val (.int k), .val (.int av), .val (.int p0), .val (.int p1), .val (.int p2), .val (.int xt), .val (.int lst), .val (.int dm), .val (.double v0), .second, .val (.double v1), .second, .val (.double v2), .second, .val (.double jk), .second, .val (.ref sv), .val (.ref c1), .val (.ref c2)] [])) _
    refine XS.aload X313.here hx rfl (hb hby at_533) rfl rfl ?_
    show Steps p.tables e below (T313.setTop (mkF m 535 #[.val (.int q1), .val (.int q2), .val (.int q3), .val (.int q4), .val (.int q5), .val (.int k), .val (.int av), .val (.int p0), .val (.int p1), .val (.int p2), .val (.int xt), .val (.int lst), .val (.int dm), .val (.double v0), .second, .val (.double v1), .second, .val (.double v2), .second, .val (.double jk), .second, .val (.ref sv), .val (.ref c1), .val (.ref c2)] [(.ref c1)])) _
    refine XS.bipush X313.here hx rfl (hb hby at_535) ?_
    show Steps p.tables e below (T313.setTop (mkF m 537 #[.val (.int q1), .val (.int q2), .val (.int q3), .val (.int q4), .val (.int q5), .val (.int k), .val (.int av), .val (.int p0), .val (.int p1), .val (.int p2), .val (.int xt), .val (.int lst), .val (.int dm), .val (.double v0), .second, .val (.double v1), .second, .val (.double v2), .second, .val (.double jk), .second, .val (.ref sv), .val (.ref c1), .val (.ref c2)] [(.int (6 : Int32)), (.ref c1)])) _
    refine XS.iload X313.here hx rfl (hb hby at_537) rfl ?_
    show Steps p.tables e below (T313.setTop (mkF m 539 #[.val (.int q1), .val (.int q2), .val (.int q3), .val (.int q4), .val (.int q5), .val (.int k), .val (.int av), .val (.int p0), .val (.int p1), .val (.int p2), .val (.int xt), .val (.int lst), .val (.int dm), .val (.double v0), .second, .val (.double v1), .second, .val (.double v2), .second, .val (.double jk), .second, .val (.ref sv), .val (.ref c1), .val (.ref c2)] [(.int k), (.int (6 : Int32)), (.ref c1)])) _
    refine XS.iload X313.here hx rfl (hb hby at_539) rfl ?_
    show Steps p.tables e below (T313.setTop (mkF m 541 #[.val (.int q1), .val (.int q2), .val (.int q3), .val (.int q4), .val (.int q5), .val (.int k), .val (.int av), .val (.int p0), .val (.int p1), .val (.int p2), .val (.int xt), .val (.int lst), .val (.int dm), .val (.double v0), .second, .val (.double v1), .second, .val (.double v2), .second, .val (.double jk), .second, .val (.ref sv), .val (.ref c1), .val (.ref c2)] [(.int p0), (.int k), (.int (6 : Int32)), (.ref c1)])) _
    refine XS.iload X313.here hx rfl (hb hby at_541) rfl ?_
    show Steps p.tables e below (T313.setTop (mkF m 543 #[.val (.int q1), .val (.int q2), .val (.int q3), .val (.int q4), .val (.int q5), .val (.int k), .val (.int av), .val (.int p0), .val (.int p1), .val (.int p2), .val (.int xt), .val (.int lst), .val (.int dm), .val (.double v0), .second, .val (.double v1), .second, .val (.double v2), .second, .val (.double jk), .second, .val (.ref sv), .val (.ref c1), .val (.ref c2)] [(.int p1), (.int p0), (.int k), (.int (6 : Int32)), (.ref c1)])) _
    refine XS.iload X313.here hx rfl (hb hby at_543) rfl ?_
    show Steps p.tables e below (T313.setTop (mkF m 545 #[.val (.int q1), .val (.int q2), .val (.int q3), .val (.int q4), .val (.int q5), .val (.int k), .val (.int av), .val (.int p0), .val (.int p1), .val (.int p2), .val (.int xt), .val (.int lst), .val (.int dm), .val (.double v0), .second, .val (.double v1), .second, .val (.double v2), .second, .val (.double jk), .second, .val (.ref sv), .val (.ref c1), .val (.ref c2)] [(.int p2), (.int p1), (.int p0), (.int k), (.int (6 : Int32)), (.ref c1)])) _
    refine XS.dload X313.here hx rfl (hb hby at_545) rfl ?_
    show Steps p.tables e below (T313.setTop (mkF m 547 #[.val (.int q1), .val (.int q2), .val (.int q3), .val (.int q4), .val (.int q5), .val (.int k), .val (.int av), .val (.int p0), .val (.int p1), .val (.int p2), .val (.int xt), .val (.int lst), .val (.int dm), .val (.double v0), .second, .val (.double v1), .second, .val (.double v2), .second, .val (.double jk), .second, .val (.ref sv), .val (.ref c1), .val (.ref c2)] [(.double v0), (.int p2), (.int p1), (.int p0), (.int k), (.int (6 : Int32)), (.ref c1)])) _
    refine XS.dload X313.here hx rfl (hb hby at_547) rfl ?_
    show Steps p.tables e below (T313.setTop (mkF m 549 #[.val (.int q1), .val (.int q2), .val (.int q3), .val (.int q4), .val (.int q5), .val (.int k), .val (.int av), .val (.int p0), .val (.int p1), .val (.int p2), .val (.int xt), .val (.int lst), .val (.int dm), .val (.double v0), .second, .val (.double v1), .second, .val (.double v2), .second, .val (.double jk), .second, .val (.ref sv), .val (.ref c1), .val (.ref c2)] [(.double v1), (.double v0), (.int p2), (.int p1), (.int p0), (.int k), (.int (6 : Int32)), (.ref c1)])) _
    refine XS.dload X313.here hx rfl (hb hby at_549) rfl ?_
    exact Steps.refl _
  obtain ⟨_, _, ⟨T316, L316, k316, n316⟩, -, X316, ⟨Lc316, hQ316, l316, y316, z316⟩, st316⟩ := Jvm.LawKit.callS X313 hx (y := (⟨"com/example/polytome/polytome/model/SparseVectorToArrayPinLaw", "ok", "([DIIIIIDDD)Z"⟩ : MethodName)) hown (mvT hZ (hw _ (List.mem_of_getElem? (i := 44) rfl))) (mvT hZ (hw _ (List.mem_of_getElem? (i := 45) rfl))) (mvT hZ (hw _ (List.mem_of_getElem? (i := 46) rfl))) (mvT hZ (hw _ (List.mem_of_getElem? (i := 47) rfl))) (by decide) (backOf (W := 0) (rmK l Z a0 hw [] c1 (6 : Int32) k p0 p1 p2 v0 v1 v2 dm (own_c k p0 p1 p2 v0 v1 v2) hM n0 ZM GM bdm.1 (by decide) (fun _ => hce _ (by decide)) (hnn _)) hZ (hw _ (List.mem_of_getElem? (i := 47) rfl)) (hw _ (List.mem_of_getElem? (i := 46) rfl)) (by decide) (by decide)) (g := (mkF m 551 #[.val (.int q1), .val (.int q2), .val (.int q3), .val (.int q4), .val (.int q5), .val (.int k), .val (.int av), .val (.int p0), .val (.int p1), .val (.int p2), .val (.int xt), .val (.int lst), .val (.int dm), .val (.double v0), .second, .val (.double v1), .second, .val (.double v2), .second, .val (.double jk), .second, .val (.ref sv), .val (.ref c1), .val (.ref c2)] [(.double v2), (.double v1), (.double v0), (.int p2), (.int p1), (.int p0), (.int k), (.int (6 : Int32)), (.ref c1)])) rfl (by rw [hml]; rfl) (argsL := [(.ref c1), (.int (6 : Int32)), (.int k), (.int p0), (.int p1), (.int p2), (.double v0), (.double v1), (.double v2)]) (rest := []) (lenOf pd_5 rfl) rfl (by show 2 * 0 + _ ≤ _; exact Nat.le_of_eq rfl) (hb hby at_551) (fun _ _ => ⟨rfl, e313, (by decide : ((((((7 + 0) + 0) + 0) + 0) + 0) + 0) + 0 ≤ _), (by decide : ((((((50 + 0) + 0) + 0) + 0) + 0) + 0) + 0 ≤ _)⟩)
  dsimp only [Pt.U, Pt.locs, Pt.cells, Pt.slots] at X316 l316 y316 z316 st316 hQ316
  subst l316 y316 z316
  obtain ⟨rfl, Nq316, e316⟩ := hQ316
  have N316 := Fr.app N313 Nq316
  have r317 : Steps p.tables e below S0 (T316.setTop (mkF m 554 #[.val (.int q1), .val (.int q2), .val (.int q3), .val (.int q4), .val (.int q5), .val (.int k), .val (.int av), .val (.int p0), .val (.int p1), .val (.int p2), .val (.int xt), .val (.int lst), .val (.int dm), .val (.double v0), .second, .val (.double v1), .second, .val (.double v2), .second, .val (.double jk), .second, .val (.ref sv), .val (.ref c1), .val (.ref c2)] [(.int (1 : Int32))])) := r315.trans (st316 _ (Steps.refl _))
  have r318 : Steps p.tables e below S0 (T316.setTop (mkF m 575 #[.val (.int q1), .val (.int q2), .val (.int q3), .val (.int q4), .val (.int q5), .val (.int k), .val (.int av), .val (.int p0), .val (.int p1), .val (.int p2), .val (.int xt), .val (.int lst), .val (.int dm), .val (.double v0), .second, .val (.double v1), .second, .val (.double v2), .second, .val (.double jk), .second, .val (.ref sv), .val (.ref c1), .val (.ref c2)] [(.double v2), (.double v1), (.double v0), (.int p2), (.int p1), (.int p0), (.int k), (.int (7 : Int32)), (.ref c1)])) := by
    refine r317.trans ?_
    show Steps p.tables e below (T316.setTop (mkF m 554 #[.val (.int q1), .val (.int q2), .val (.int q3), .val (.int q4), .val (.int q5), .val (.int k), .val (.int av), .val (.int p0), .val (.int p1), .val (.int p2), .val (.int xt), .val (.int lst), .val (.int dm), .val (.double v0), .second, .val (.double v1), .second, .val (.double v2), .second, .val (.double jk), .second, .val (.ref sv), .val (.ref c1), .val (.ref c2)] [(.int (1 : Int32))])) _
    refine XS.ifNo X316.here hx rfl (hb hby at_554) rfl ((if0 _ _).trans (feq (by decide)).1) ?_
    show Steps p.tables e below (T316.setTop (mkF m 557 #[.val (.int q1), .val (.int q2), .val (.int q3), .val (.int q4), .val (.int q5), .val (.int k), .val (.int av), .val (.int p0), .val (.int p1), .val (.int p2), .val (.int xt), .val (.int lst), .val (.int dm), .val (.double v0), .second, .val (.double v1), .second, .val (.double v2), .second, .val (.double jk), .second, .val (.ref sv), .val (.ref c1), .val (.ref c2)] [])) _
    refine XS.aload X316.here hx rfl (hb hby at_557) rfl rfl ?_
    show Steps p.tables e below (T316.setTop (mkF m 559 #[.val (.int q1), .val (.int q2), .val (.int q3), .val (.int q4), .val (.int q5), .val (.int k), .val (.int av), .val (.int p0), .val (.int p1), .val (.int p2), .val (.int xt), .val (.int lst), .val (.int dm), .val (.double v0), .second, .val (.double v1), .second, .val (.double v2), .second, .val (.double jk), .second, .val (.ref sv), .val (.ref c1), .val (.ref c2)] [(.ref c1)])) _
    refine XS.bipush X316.here hx rfl (hb hby at_559) ?_
    show Steps p.tables e below (T316.setTop (mkF m 561 #[.val (.int q1), .val (.int q2), .val (.int q3), .val (.int q4), .val (.int q5), .val (.int k), .val (.int av), .val (.int p0), .val (.int p1), .val (.int p2), .val (.int xt), .val (.int lst), .val (.int dm), .val (.double v0), .second, .val (.double v1), .second, .val (.double v2), .second, .val (.double jk), .second, .val (.ref sv), .val (.ref c1), .val (.ref c2)] [(.int (7 : Int32)), (.ref c1)])) _
    refine XS.iload X316.here hx rfl (hb hby at_561) rfl ?_
    show Steps p.tables e below (T316.setTop (mkF m 563 #[.val (.int q1), .val (.int q2), .val (.int q3), .val (.int q4), .val (.int q5), .val (.int k), .val (.int av), .val (.int p0), .val (.int p1), .val (.int p2), .val (.int xt), .val (.int lst), .val (.int dm), .val (.double v0), .second, .val (.double v1), .second, .val (.double v2), .second, .val (.double jk), .second, .val (.ref sv), .val (.ref c1), .val (.ref c2)] [(.int k), (.int (7 : Int32)), (.ref c1)])) _
    refine XS.iload X316.here hx rfl (hb hby at_563) rfl ?_
    show Steps p.tables e below (T316.setTop (mkF m 565 #[.val (.int q1), .val (.int q2), .val (.int q3), .val (.int q4), .val (.int q5), .val (.int k), .val (.int av), .val (.int p0), .val (.int p1), .val (.int p2), .val (.int xt), .val (.int lst), .val (.int dm), .val (.double v0), .second, .val (.double v1), .second, .val (.double v2), .second, .val (.double jk), .second, .val (.ref sv), .val (.ref c1), .val (.ref c2)] [(.int p0), (.int k), (.int (7 : Int32)), (.ref c1)])) _
    refine XS.iload X316.here hx rfl (hb hby at_565) rfl ?_
    show Steps p.tables e below (T316.setTop (mkF m 567 #[.val (.int q1), .val (.int q2), .val (.int q3), .val (.int q4), .val (.int q5), .val (.int k), .val (.int av), .val (.int p0), .val (.int p1), .val (.int p2), .val (.int xt), .val (.int lst), .val (.int dm), .val (.double v0), .second, .val (.double v1), .second, .val (.double v2), .second, .val (.double jk), .second, .val (.ref sv), .val (.ref c1), .val (.ref c2)] [(.int p1), (.int p0), (.int k), (.int (7 : Int32)), (.ref c1)])) _
    refine XS.iload X316.here hx rfl (hb hby at_567) rfl ?_
    show Steps p.tables e below (T316.setTop (mkF m 569 #[.val (.int q1), .val (.int q2), .val (.int q3), .val (.int q4), .val (.int q5), .val (.int k), .val (.int av), .val (.int p0), .val (.int p1), .val (.int p2), .val (.int xt), .val (.int lst), .val (.int dm), .val (.double v0), .second, .val (.double v1), .second, .val (.double v2), .second, .val (.double jk), .second, .val (.ref sv), .val (.ref c1), .val (.ref c2)] [(.int p2), (.int p1), (.int p0), (.int k), (.int (7 : Int32)), (.ref c1)])) _
    refine XS.dload X316.here hx rfl (hb hby at_569) rfl ?_
    show Steps p.tables e below (T316.setTop (mkF m 571 #[.val (.int q1), .val (.int q2), .val (.int q3), .val (.int q4), .val (.int q5), .val (.int k), .val (.int av), .val (.int p0), .val (.int p1), .val (.int p2), .val (.int xt), .val (.int lst), .val (.int dm), .val (.double v0), .second, .val (.double v1), .second, .val (.double v2), .second, .val (.double jk), .second, .val (.ref sv), .val (.ref c1), .val (.ref c2)] [(.double v0), (.int p2), (.int p1), (.int p0), (.int k), (.int (7 : Int32)), (.ref c1)])) _
    refine XS.dload X316.here hx rfl (hb hby at_571) rfl ?_
    show Steps p.tables e below (T316.setTop (mkF m 573 #[.val (.int q1), .val (.int q2), .val (.int q3), .val (.int q4), .val (.int q5), .val (.int k), .val (.int av), .val (.int p0), .val (.int p1), .val (.int p2), .val (.int xt), .val (.int lst), .val (.int dm), .val (.double v0), .second, .val (.double v1), .second, .val (.double v2), .second, .val (.double jk), .second, .val (.ref sv), .val (.ref c1), .val (.ref c2)] [(.double v1), (.double v0), (.int p2), (.int p1), (.int p0), (.int k), (.int (7 : Int32)), (.ref c1)])) _
    refine XS.dload X316.here hx rfl (hb hby at_573) rfl ?_
    exact Steps.refl _
  obtain ⟨_, _, ⟨T319, L319, k319, n319⟩, -, X319, ⟨Lc319, hQ319, l319, y319, z319⟩, st319⟩ := Jvm.LawKit.callS X316 hx (y := (⟨"com/example/polytome/polytome/model/SparseVectorToArrayPinLaw", "ok", "([DIIIIIDDD)Z"⟩ : MethodName)) hown (mvT hZ (hw _ (List.mem_of_getElem? (i := 44) rfl))) (mvT hZ (hw _ (List.mem_of_getElem? (i := 45) rfl))) (mvT hZ (hw _ (List.mem_of_getElem? (i := 46) rfl))) (mvT hZ (hw _ (List.mem_of_getElem? (i := 47) rfl))) (by decide) (backOf (W := 0) (rmK l Z a0 hw [] c1 (7 : Int32) k p0 p1 p2 v0 v1 v2 dm (own_c k p0 p1 p2 v0 v1 v2) hM n0 ZM GM bdm.1 (by decide) (fun _ => hce _ (by decide)) (hnn _)) hZ (hw _ (List.mem_of_getElem? (i := 47) rfl)) (hw _ (List.mem_of_getElem? (i := 46) rfl)) (by decide) (by decide)) (g := (mkF m 575 #[.val (.int q1), .val (.int q2), .val (.int q3), .val (.int q4), .val (.int q5), .val (.int k), .val (.int av), .val (.int p0), .val (.int p1), .val (.int p2), .val (.int xt), .val (.int lst), .val (.int dm), .val (.double v0), .second, .val (.double v1), .second, .val (.double v2), .second, .val (.double jk), .second, .val (.ref sv), .val (.ref c1), .val (.ref c2)] [(.double v2), (.double v1), (.double v0), (.int p2), (.int p1), (.int p0), (.int k), (.int (7 : Int32)), (.ref c1)])) rfl (by rw [hml]; rfl) (argsL := [(.ref c1), (.int (7 : Int32)), (.int k), (.int p0), (.int p1), (.int p2), (.double v0), (.double v1), (.double v2)]) (rest := []) (lenOf pd_5 rfl) rfl (by show 2 * 0 + _ ≤ _; exact Nat.le_of_eq rfl) (hb hby at_575) (fun _ _ => ⟨rfl, e316, (by decide : (((((((7 + 0) + 0) + 0) + 0) + 0) + 0) + 0) + 0 ≤ _), (by decide : (((((((50 + 0) + 0) + 0) + 0) + 0) + 0) + 0) + 0 ≤ _)⟩)
  dsimp only [Pt.U, Pt.locs, Pt.cells, Pt.slots] at X319 l319 y319 z319 st319 hQ319
  subst l319 y319 z319
  obtain ⟨rfl, Nq319, e319⟩ := hQ319
  have N319 := Fr.app N316 Nq319
  have r320 : Steps p.tables e below S0 (T319.setTop (mkF m 578 #[.val (.int q1), .val (.int q2), .val (.int q3), .val (.int q4), .val (.int q5), .val (.int k), .val (.int av), .val (.int p0), .val (.int p1), .val (.int p2), .val (.int xt), .val (.int lst), .val (.int dm), .val (.double v0), .second, .val (.double v1), .second, .val (.double v2), .second, .val (.double jk), .second, .val (.ref sv), .val (.ref c1), .val (.ref c2)] [(.int (1 : Int32))])) := r318.trans (st319 _ (Steps.refl _))
  have r321 : Steps p.tables e below S0 (T319.setTop (mkF m 599 #[.val (.int q1), .val (.int q2), .val (.int q3), .val (.int q4), .val (.int q5), .val (.int k), .val (.int av), .val (.int p0), .val (.int p1), .val (.int p2), .val (.int xt), .val (.int lst), .val (.int dm), .val (.double v0), .second, .val (.double v1), .second, .val (.double v2), .second, .val (.double jk), .second, .val (.ref sv), .val (.ref c1), .val (.ref c2)] [(.double v2), (.double v1), (.double v0), (.int p2), (.int p1), (.int p0), (.int k), (.int (8 : Int32)), (.ref c1)])) := by
    refine r320.trans ?_
    show Steps p.tables e below (T319.setTop (mkF m 578 #[.val (.int q1), .val (.int q2), .val (.int q3), .val (.int q4), .val (.int q5), .val (.int k), .val (.int av), .val (.int p0), .val (.int p1), .val (.int p2), .val (.int xt), .val (.int lst), .val (.int dm), .val (.double v0), .second, .val (.double v1), .second, .val (.double v2), .second, .val (.double jk), .second, .val (.ref sv), .val (.ref c1), .val (.ref c2)] [(.int (1 : Int32))])) _
    refine XS.ifNo X319.here hx rfl (hb hby at_578) rfl ((if0 _ _).trans (feq (by decide)).1) ?_
    show Steps p.tables e below (T319.setTop (mkF m 581 #[.val (.int q1), .val (.int q2), .val (.int q3), .val (.int q4), .val (.int q5), .val (.int k), .val (.int av), .val (.int p0), .val (.int p1), .val (.int p2), .val (.int xt), .val (.int lst), .val (.int dm), .val (.double v0), .second, .val (.double v1), .second, .val (.double v2), .second, .val (.double jk), .second, .val (.ref sv), .val (.ref c1), .val (.ref c2)] [])) _
    refine XS.aload X319.here hx rfl (hb hby at_581) rfl rfl ?_
    show Steps p.tables e below (T319.setTop (mkF m 583 #[.val (.int q1), .val (.int q2), .val (.int q3), .val (.int q4), .val (.int q5), .val (.int k), .val (.int av), .val (.int p0), .val (.int p1), .val (.int p2), .val (.int xt), .val (.int lst), .val (.int dm), .val (.double v0), .second, .val (.double v1), .second, .val (.double v2), .second, .val (.double jk), .second, .val (.ref sv), .val (.ref c1), .val (.ref c2)] [(.ref c1)])) _
    refine XS.bipush X319.here hx rfl (hb hby at_583) ?_
    show Steps p.tables e below (T319.setTop (mkF m 585 #[.val (.int q1), .val (.int q2), .val (.int q3), .val (.int q4), .val (.int q5), .val (.int k), .val (.int av), .val (.int p0), .val (.int p1), .val (.int p2), .val (.int xt), .val (.int lst), .val (.int dm), .val (.double v0), .second, .val (.double v1), .second, .val (.double v2), .second, .val (.double jk), .second, .val (.ref sv), .val (.ref c1), .val (.ref c2)] [(.int (8 : Int32)), (.ref c1)])) _
    refine XS.iload X319.here hx rfl (hb hby at_585) rfl ?_
    show Steps p.tables e below (T319.setTop (mkF m 587 #[.val (.int q1), .val (.int q2), .val (.int q3), .val (.int q4), .val (.int q5), .val (.int k), .val (.int av), .val (.int p0), .val (.int p1), .val (.int p2), .val (.int xt), .val (.int lst), .val (.int dm), .val (.double v0), .second, .val (.double v1), .second, .val (.double v2), .second, .val (.double jk), .second, .val (.ref sv), .val (.ref c1), .val (.ref c2)] [(.int k), (.int (8 : Int32)), (.ref c1)])) _
    refine XS.iload X319.here hx rfl (hb hby at_587) rfl ?_
    show Steps p.tables e below (T319.setTop (mkF m 589 #[.val (.int q1), .val (.int q2), .val (.int q3), .val (.int q4), .val (.int q5), .val (.int k), .val (.int av), .val (.int p0), .val (.int p1), .val (.int p2), .val (.int xt), .val (.int lst), .val (.int dm), .val (.double v0), .second, .val (.double v1), .second, .val (.double v2), .second, .val (.double jk), .second, .val (.ref sv), .val (.ref c1), .val (.ref c2)] [(.int p0), (.int k), (.int (8 : Int32)), (.ref c1)])) _
    refine XS.iload X319.here hx rfl (hb hby at_589) rfl ?_
    show Steps p.tables e below (T319.setTop (mkF m 591 #[.val (.int q1), .val (.int q2), .val (.int q3), .val (.int q4), .val (.int q5), .val (.int k), .val (.int av), .val (.int p0), .val (.int p1), .val (.int p2), .val (.int xt), .val (.int lst), .val (.int dm), .val (.double v0), .second, .val (.double v1), .second, .val (.double v2), .second, .val (.double jk), .second, .val (.ref sv), .val (.ref c1), .val (.ref c2)] [(.int p1), (.int p0), (.int k), (.int (8 : Int32)), (.ref c1)])) _
    refine XS.iload X319.here hx rfl (hb hby at_591) rfl ?_
    show Steps p.tables e below (T319.setTop (mkF m 593 #[.val (.int q1), .val (.int q2), .val (.int q3), .val (.int q4), .val (.int q5), .val (.int k), .val (.int av), .val (.int p0), .val (.int p1), .val (.int p2), .val (.int xt), .val (.int lst), .val (.int dm), .val (.double v0), .second, .val (.double v1), .second, .val (.double v2), .second, .val (.double jk), .second, .val (.ref sv), .val (.ref c1), .val (.ref c2)] [(.int p2), (.int p1), (.int p0), (.int k), (.int (8 : Int32)), (.ref c1)])) _
    refine XS.dload X319.here hx rfl (hb hby at_593) rfl ?_
    show Steps p.tables e below (T319.setTop (mkF m 595 #[.val (.int q1), .val (.int q2), .val (.int q3), .val (.int q4), .val (.int q5), .val (.int k), .val (.int av), .val (.int p0), .val (.int p1), .val (.int p2), .val (.int xt), .val (.int lst), .val (.int dm), .val (.double v0), .second, .val (.double v1), .second, .val (.double v2), .second, .val (.double jk), .second, .val (.ref sv), .val (.ref c1), .val (.ref c2)] [(.double v0), (.int p2), (.int p1), (.int p0), (.int k), (.int (8 : Int32)), (.ref c1)])) _
    refine XS.dload X319.here hx rfl (hb hby at_595) rfl ?_
    show Steps p.tables e below (T319.setTop (mkF m 597 #[.val (.int q1), .val (.int q2), .val (.int q3), .val (.int q4), .val (.int q5), .val (.int k), .val (.int av), .val (.int p0), .val (.int p1), .val (.int p2), .val (.int xt), .val (.int lst), .val (.int dm), .val (.double v0), .second, .val (.double v1), .second, .val (.double v2), .second, .val (.double jk), .second, .val (.ref sv), .val (.ref c1), .val (.ref c2)] [(.double v1), (.double v0), (.int p2), (.int p1), (.int p0), (.int k), (.int (8 : Int32)), (.ref c1)])) _
    refine XS.dload X319.here hx rfl (hb hby at_597) rfl ?_
    exact Steps.refl _
  obtain ⟨_, _, ⟨T322, L322, k322, n322⟩, -, X322, ⟨Lc322, hQ322, l322, y322, z322⟩, st322⟩ := Jvm.LawKit.callS X319 hx (y := (⟨"com/example/polytome/polytome/model/SparseVectorToArrayPinLaw", "ok", "([DIIIIIDDD)Z"⟩ : MethodName)) hown (mvT hZ (hw _ (List.mem_of_getElem? (i := 44) rfl))) (mvT hZ (hw _ (List.mem_of_getElem? (i := 45) rfl))) (mvT hZ (hw _ (List.mem_of_getElem? (i := 46) rfl))) (mvT hZ (hw _ (List.mem_of_getElem? (i := 47) rfl))) (by decide) (backOf (W := 0) (rmK l Z a0 hw [] c1 (8 : Int32) k p0 p1 p2 v0 v1 v2 dm (own_c k p0 p1 p2 v0 v1 v2) hM n0 ZM GM bdm.1 (by decide) (fun _ => hce _ (by decide)) (hnn _)) hZ (hw _ (List.mem_of_getElem? (i := 47) rfl)) (hw _ (List.mem_of_getElem? (i := 46) rfl)) (by decide) (by decide)) (g := (mkF m 599 #[.val (.int q1), .val (.int q2), .val (.int q3), .val (.int q4), .val (.int q5), .val (.int k), .val (.int av), .val (.int p0), .val (.int p1), .val (.int p2), .val (.int xt), .val (.int lst), .val (.int dm), .val (.double v0), .second, .val (.double v1), .second, .val (.double v2), .second, .val (.double jk), .second, .val (.ref sv), .val (.ref c1), .val (.ref c2)] [(.double v2), (.double v1), (.double v0), (.int p2), (.int p1), (.int p0), (.int k), (.int (8 : Int32)), (.ref c1)])) rfl (by rw [hml]; rfl) (argsL := [(.ref c1), (.int (8 : Int32)), (.int k), (.int p0), (.int p1), (.int p2), (.double v0), (.double v1), (.double v2)]) (rest := []) (lenOf pd_5 rfl) rfl (by show 2 * 0 + _ ≤ _; exact Nat.le_of_eq rfl) (hb hby at_599) (fun _ _ => ⟨rfl, e319, (by decide : ((((((((7 + 0) + 0) + 0) + 0) + 0) + 0) + 0) + 0) + 0 ≤ _), (by decide : ((((((((50 + 0) + 0) + 0) + 0) + 0) + 0) + 0) + 0) + 0 ≤ _)⟩)
  dsimp only [Pt.U, Pt.locs, Pt.cells, Pt.slots] at X322 l322 y322 z322 st322 hQ322
  subst l322 y322 z322
  obtain ⟨rfl, Nq322, e322⟩ := hQ322
  have N322 := Fr.app N319 Nq322
  have r323 : Steps p.tables e below S0 (T322.setTop (mkF m 602 #[.val (.int q1), .val (.int q2), .val (.int q3), .val (.int q4), .val (.int q5), .val (.int k), .val (.int av), .val (.int p0), .val (.int p1), .val (.int p2), .val (.int xt), .val (.int lst), .val (.int dm), .val (.double v0), .second, .val (.double v1), .second, .val (.double v2), .second, .val (.double jk), .second, .val (.ref sv), .val (.ref c1), .val (.ref c2)] [(.int (1 : Int32))])) := r321.trans (st322 _ (Steps.refl _))
  have r324 : Steps p.tables e below S0 (T322.setTop (mkF m 623 #[.val (.int q1), .val (.int q2), .val (.int q3), .val (.int q4), .val (.int q5), .val (.int k), .val (.int av), .val (.int p0), .val (.int p1), .val (.int p2), .val (.int xt), .val (.int lst), .val (.int dm), .val (.double v0), .second, .val (.double v1), .second, .val (.double v2), .second, .val (.double jk), .second, .val (.ref sv), .val (.ref c1), .val (.ref c2)] [(.double v2), (.double v1), (.double v0), (.int p2), (.int p1), (.int p0), (.int k), (.int (9 : Int32)), (.ref c1)])) := by
    refine r323.trans ?_
    show Steps p.tables e below (T322.setTop (mkF m 602 #[.val (.int q1), .val (.int q2), .val (.int q3), .val (.int q4), .val (.int q5), .val (.int k), .val (.int av), .val (.int p0), .val (.int p1), .val (.int p2), .val (.int xt), .val (.int lst), .val (.int dm), .val (.double v0), .second, .val (.double v1), .second, .val (.double v2), .second, .val (.double jk), .second, .val (.ref sv), .val (.ref c1), .val (.ref c2)] [(.int (1 : Int32))])) _
    refine XS.ifNo X322.here hx rfl (hb hby at_602) rfl ((if0 _ _).trans (feq (by decide)).1) ?_
    show Steps p.tables e below (T322.setTop (mkF m 605 #[.val (.int q1), .val (.int q2), .val (.int q3), .val (.int q4), .val (.int q5), .val (.int k), .val (.int av), .val (.int p0), .val (.int p1), .val (.int p2), .val (.int xt), .val (.int lst), .val (.int dm), .val (.double v0), .second, .val (.double v1), .second, .val (.double v2), .second, .val (.double jk), .second, .val (.ref sv), .val (.ref c1), .val (.ref c2)] [])) _
    refine XS.aload X322.here hx rfl (hb hby at_605) rfl rfl ?_
    show Steps p.tables e below (T322.setTop (mkF m 607 #[.val (.int q1), .val (.int q2), .val (.int q3), .val (.int q4), .val (.int q5), .val (.int k), .val (.int av), .val (.int p0), .val (.int p1), .val (.int p2), .val (.int xt), .val (.int lst), .val (.int dm), .val (.double v0), .second, .val (.double v1), .second, .val (.double v2), .second, .val (.double jk), .second, .val (.ref sv), .val (.ref c1), .val (.ref c2)] [(.ref c1)])) _
    refine XS.bipush X322.here hx rfl (hb hby at_607) ?_
    show Steps p.tables e below (T322.setTop (mkF m 609 #[.val (.int q1), .val (.int q2), .val (.int q3), .val (.int q4), .val (.int q5), .val (.int k), .val (.int av), .val (.int p0), .val (.int p1), .val (.int p2), .val (.int xt), .val (.int lst), .val (.int dm), .val (.double v0), .second, .val (.double v1), .second, .val (.double v2), .second, .val (.double jk), .second, .val (.ref sv), .val (.ref c1), .val (.ref c2)] [(.int (9 : Int32)), (.ref c1)])) _
    refine XS.iload X322.here hx rfl (hb hby at_609) rfl ?_
    show Steps p.tables e below (T322.setTop (mkF m 611 #[.val (.int q1), .val (.int q2), .val (.int q3), .val (.int q4), .val (.int q5), .val (.int k), .val (.int av), .val (.int p0), .val (.int p1), .val (.int p2), .val (.int xt), .val (.int lst), .val (.int dm), .val (.double v0), .second, .val (.double v1), .second, .val (.double v2), .second, .val (.double jk), .second, .val (.ref sv), .val (.ref c1), .val (.ref c2)] [(.int k), (.int (9 : Int32)), (.ref c1)])) _
    refine XS.iload X322.here hx rfl (hb hby at_611) rfl ?_
    show Steps p.tables e below (T322.setTop (mkF m 613 #[.val (.int q1), .val (.int q2), .val (.int q3), .val (.int q4), .val (.int q5), .val (.int k), .val (.int av), .val (.int p0), .val (.int p1), .val (.int p2), .val (.int xt), .val (.int lst), .val (.int dm), .val (.double v0), .second, .val (.double v1), .second, .val (.double v2), .second, .val (.double jk), .second, .val (.ref sv), .val (.ref c1), .val (.ref c2)] [(.int p0), (.int k), (.int (9 : Int32)), (.ref c1)])) _
    refine XS.iload X322.here hx rfl (hb hby at_613) rfl ?_
    show Steps p.tables e below (T322.setTop (mkF m 615 #[.val (.int q1), .val (.int q2), .val (.int q3), .val (.int q4), .val (.int q5), .val (.int k), .val (.int av), .val (.int p0), .val (.int p1), .val (.int p2), .val (.int xt), .val (.int lst), .val (.int dm), .val (.double v0), .second, .val (.double v1), .second, .val (.double v2), .second, .val (.double jk), .second, .val (.ref sv), .val (.ref c1), .val (.ref c2)] [(.int p1), (.int p0), (.int k), (.int (9 : Int32)), (.ref c1)])) _
    refine XS.iload X322.here hx rfl (hb hby at_615) rfl ?_
    show Steps p.tables e below (T322.setTop (mkF m 617 #[.val (.int q1), .val (.int q2), .val (.int q3), .val (.int q4), .val (.int q5), .val (.int k), .val (.int av), .val (.int p0), .val (.int p1), .val (.int p2), .val (.int xt), .val (.int lst), .val (.int dm), .val (.double v0), .second, .val (.double v1), .second, .val (.double v2), .second, .val (.double jk), .second, .val (.ref sv), .val (.ref c1), .val (.ref c2)] [(.int p2), (.int p1), (.int p0), (.int k), (.int (9 : Int32)), (.ref c1)])) _
    refine XS.dload X322.here hx rfl (hb hby at_617) rfl ?_
    show Steps p.tables e below (T322.setTop (mkF m 619 #[.val (.int q1), .val (.int q2), .val (.int q3), .val (.int q4), .val (.int q5), .val (.int k), .val (.int av), .val (.int p0), .val (.int p1), .val (.int p2), .val (.int xt), .val (.int lst), .val (.int dm), .val (.double v0), .second, .val (.double v1), .second, .val (.double v2), .second, .val (.double jk), .second, .val (.ref sv), .val (.ref c1), .val (.ref c2)] [(.double v0), (.int p2), (.int p1), (.int p0), (.int k), (.int (9 : Int32)), (.ref c1)])) _
    refine XS.dload X322.here hx rfl (hb hby at_619) rfl ?_
    show Steps p.tables e below (T322.setTop (mkF m 621 #[.val (.int q1), .val (.int q2), .val (.int q3), .val (.int q4), .val (.int q5), .val (.int k), .val (.int av), .val (.int p0), .val (.int p1), .val (.int p2), .val (.int xt), .val (.int lst), .val (.int dm), .val (.double v0), .second, .val (.double v1), .second, .val (.double v2), .second, .val (.double jk), .second, .val (.ref sv), .val (.ref c1), .val (.ref c2)] [(.double v1), (.double v0), (.int p2), (.int p1), (.int p0), (.int k), (.int (9 : Int32)), (.ref c1)])) _
    refine XS.dload X322.here hx rfl (hb hby at_621) rfl ?_
    exact Steps.refl _
  obtain ⟨_, _, ⟨T325, L325, k325, n325⟩, -, X325, ⟨Lc325, hQ325, l325, y325, z325⟩, st325⟩ := Jvm.LawKit.callS X322 hx (y := (⟨"com/example/polytome/polytome/model/SparseVectorToArrayPinLaw", "ok", "([DIIIIIDDD)Z"⟩ : MethodName)) hown (mvT hZ (hw _ (List.mem_of_getElem? (i := 44) rfl))) (mvT hZ (hw _ (List.mem_of_getElem? (i := 45) rfl))) (mvT hZ (hw _ (List.mem_of_getElem? (i := 46) rfl))) (mvT hZ (hw _ (List.mem_of_getElem? (i := 47) rfl))) (by decide) (backOf (W := 0) (rmK l Z a0 hw [] c1 (9 : Int32) k p0 p1 p2 v0 v1 v2 dm (own_c k p0 p1 p2 v0 v1 v2) hM n0 ZM GM bdm.1 (by decide) (fun _ => hce _ (by decide)) (hnn _)) hZ (hw _ (List.mem_of_getElem? (i := 47) rfl)) (hw _ (List.mem_of_getElem? (i := 46) rfl)) (by decide) (by decide)) (g := (mkF m 623 #[.val (.int q1), .val (.int q2), .val (.int q3), .val (.int q4), .val (.int q5), .val (.int k), .val (.int av), .val (.int p0), .val (.int p1), .val (.int p2), .val (.int xt), .val (.int lst), .val (.int dm), .val (.double v0), .second, .val (.double v1), .second, .val (.double v2), .second, .val (.double jk), .second, .val (.ref sv), .val (.ref c1), .val (.ref c2)] [(.double v2), (.double v1), (.double v0), (.int p2), (.int p1), (.int p0), (.int k), (.int (9 : Int32)), (.ref c1)])) rfl (by rw [hml]; rfl) (argsL := [(.ref c1), (.int (9 : Int32)), (.int k), (.int p0), (.int p1), (.int p2), (.double v0), (.double v1), (.double v2)]) (rest := []) (lenOf pd_5 rfl) rfl (by show 2 * 0 + _ ≤ _; exact Nat.le_of_eq rfl) (hb hby at_623) (fun _ _ => ⟨rfl, e322, (by decide : (((((((((7 + 0) + 0) + 0) + 0) + 0) + 0) + 0) + 0) + 0) + 0 ≤ _), (by decide : (((((((((50 + 0) + 0) + 0) + 0) + 0) + 0) + 0) + 0) + 0) + 0 ≤ _)⟩)
  dsimp only [Pt.U, Pt.locs, Pt.cells, Pt.slots] at X325 l325 y325 z325 st325 hQ325
  subst l325 y325 z325
  obtain ⟨rfl, Nq325, e325⟩ := hQ325
  have N325 := Fr.app N322 Nq325
  have r326 : Steps p.tables e below S0 (T325.setTop (mkF m 626 #[.val (.int q1), .val (.int q2), .val (.int q3), .val (.int q4), .val (.int q5), .val (.int k), .val (.int av), .val (.int p0), .val (.int p1), .val (.int p2), .val (.int xt), .val (.int lst), .val (.int dm), .val (.double v0), .second, .val (.double v1), .second, .val (.double v2), .second, .val (.double jk), .second, .val (.ref sv), .val (.ref c1), .val (.ref c2)] [(.int (1 : Int32))])) := r324.trans (st325 _ (Steps.refl _))
  have r327 : Steps p.tables e below S0 (T325.setTop (mkF m 647 #[.val (.int q1), .val (.int q2), .val (.int q3), .val (.int q4), .val (.int q5), .val (.int k), .val (.int av), .val (.int p0), .val (.int p1), .val (.int p2), .val (.int xt), .val (.int lst), .val (.int dm), .val (.double v0), .second, .val (.double v1), .second, .val (.double v2), .second, .val (.double jk), .second, .val (.ref sv), .val (.ref c1), .val (.ref c2)] [(.double v2), (.double v1), (.double v0), (.int p2), (.int p1), (.int p0), (.int k), (.int (10 : Int32)), (.ref c1)])) := by
    refine r326.trans ?_
    show Steps p.tables e below (T325.setTop (mkF m 626 #[.val (.int q1), .val (.int q2), .val (.int q3), .val (.int q4), .val (.int q5), .val (.int k), .val (.int av), .val (.int p0), .val (.int p1), .val (.int p2), .val (.int xt), .val (.int lst), .val (.int dm), .val (.double v0), .second, .val (.double v1), .second, .val (.double v2), .second, .val (.double jk), .second, .val (.ref sv), .val (.ref c1), .val (.ref c2)] [(.int (1 : Int32))])) _
    refine XS.ifNo X325.here hx rfl (hb hby at_626) rfl ((if0 _ _).trans (feq (by decide)).1) ?_
    show Steps p.tables e below (T325.setTop (mkF m 629 #[.val (.int q1), .val (.int q2), .val (.int q3), .val (.int q4), .val (.int q5), .val (.int k), .val (.int av), .val (.int p0), .val (.int p1), .val (.int p2), .val (.int xt), .val (.int lst), .val (.int dm), .val (.double v0), .second, .val (.double v1), .second, .val (.double v2), .second, .val (.double jk), .second, .val (.ref sv), .val (.ref c1), .val (.ref c2)] [])) _
    refine XS.aload X325.here hx rfl (hb hby at_629) rfl rfl ?_
    show Steps p.tables e below (T325.setTop (mkF m 631 #[.val (.int q1), .val (.int q2), .val (.int q3), .val (.int q4), .val (.int q5), .val (.int k), .val (.int av), .val (.int p0), .val (.int p1), .val (.int p2), .val (.int xt), .val (.int lst), .val (.int dm), .val (.double v0), .second, .val (.double v1), .second, .val (.double v2), .second, .val (.double jk), .second, .val (.ref sv), .val (.ref c1), .val (.ref c2)] [(.ref c1)])) _
    refine XS.bipush X325.here hx rfl (hb hby at_631) ?_
    show Steps p.tables e below (T325.setTop (mkF m 633 #[.val (.int q1), .val (.int q2), .val (.int q3), .val (.int q4), .val (.int q5), .val (.int k), .val (.int av), .val (.int p0), .val (.int p1), .val (.int p2), .val (.int xt), .val (.int lst), .val (.int dm), .val (.double v0), .second, .val (.double v1), .second, .val (.double v2), .second, .val (.double jk), .second, .val (.ref sv), .val (.ref c1), .val (.ref c2)] [(.int (10 : Int32)), (.ref c1)])) _
    refine XS.iload X325.here hx rfl (hb hby at_633) rfl ?_
    show Steps p.tables e below (T325.setTop (mkF m 635 #[.val (.int q1), .val (.int q2), .val (.int q3), .val (.int q4), .val (.int q5), .val (.int k), .val (.int av), .val (.int p0), .val (.int p1), .val (.int p2), .val (.int xt), .val (.int lst), .val (.int dm), .val (.double v0), .second, .val (.double v1), .second, .val (.double v2), .second, .val (.double jk), .second, .val (.ref sv), .val (.ref c1), .val (.ref c2)] [(.int k), (.int (10 : Int32)), (.ref c1)])) _
    refine XS.iload X325.here hx rfl (hb hby at_635) rfl ?_
    show Steps p.tables e below (T325.setTop (mkF m 637 #[.val (.int q1), .val (.int q2), .val (.int q3), .val (.int q4), .val (.int q5), .val (.int k), .val (.int av), .val (.int p0), .val (.int p1), .val (.int p2), .val (.int xt), .val (.int lst), .val (.int dm), .val (.double v0), .second, .val (.double v1), .second, .val (.double v2), .second, .val (.double jk), .second, .val (.ref sv), .val (.ref c1), .val (.ref c2)] [(.int p0), (.int k), (.int (10 : Int32)), (.ref c1)])) _
    refine XS.iload X325.here hx rfl (hb hby at_637) rfl ?_
    show Steps p.tables e below (T325.setTop (mkF m 639 #[.val (.int q1), .val (.int q2), .val (.int q3), .val (.int q4), .val (.int q5), .val (.int k), .val (.int av), .val (.int p0), .val (.int p1), .val (.int p2), .val (.int xt), .val (.int lst), .val (.int dm), .val (.double v0), .second, .val (.double v1), .second, .val (.double v2), .second, .val (.double jk), .second, .val (.ref sv), .val (.ref c1), .val (.ref c2)] [(.int p1), (.int p0), (.int k), (.int (10 : Int32)), (.ref c1)])) _
    refine XS.iload X325.here hx rfl (hb hby at_639) rfl ?_
    show Steps p.tables e below (T325.setTop (mkF m 641 #[.val (.int q1), .val (.int q2), .val (.int q3), .val (.int q4), .val (.int q5), .val (.int k), .val (.int av), .val (.int p0), .val (.int p1), .val (.int p2), .val (.int xt), .val (.int lst), .val (.int dm), .val (.double v0), .second, .val (.double v1), .second, .val (.double v2), .second, .val (.double jk), .second, .val (.ref sv), .val (.ref c1), .val (.ref c2)] [(.int p2), (.int p1), (.int p0), (.int k), (.int (10 : Int32)), (.ref c1)])) _
    refine XS.dload X325.here hx rfl (hb hby at_641) rfl ?_
    show Steps p.tables e below (T325.setTop (mkF m 643 #[.val (.int q1), .val (.int q2), .val (.int q3), .val (.int q4), .val (.int q5), .val (.int k), .val (.int av), .val (.int p0), .val (.int p1), .val (.int p2), .val (.int xt), .val (.int lst), .val (.int dm), .val (.double v0), .second, .val (.double v1), .second, .val (.double v2), .second, .val (.double jk), .second, .val (.ref sv), .val (.ref c1), .val (.ref c2)] [(.double v0), (.int p2), (.int p1), (.int p0), (.int k), (.int (10 : Int32)), (.ref c1)])) _
    refine XS.dload X325.here hx rfl (hb hby at_643) rfl ?_
    show Steps p.tables e below (T325.setTop (mkF m 645 #[.val (.int q1), .val (.int q2), .val (.int q3), .val (.int q4), .val (.int q5), .val (.int k), .val (.int av), .val (.int p0), .val (.int p1), .val (.int p2), .val (.int xt), .val (.int lst), .val (.int dm), .val (.double v0), .second, .val (.double v1), .second, .val (.double v2), .second, .val (.double jk), .second, .val (.ref sv), .val (.ref c1), .val (.ref c2)] [(.double v1), (.double v0), (.int p2), (.int p1), (.int p0), (.int k), (.int (10 : Int32)), (.ref c1)])) _
    refine XS.dload X325.here hx rfl (hb hby at_645) rfl ?_
    exact Steps.refl _
  obtain ⟨_, _, ⟨T328, L328, k328, n328⟩, -, X328, ⟨Lc328, hQ328, l328, y328, z328⟩, st328⟩ := Jvm.LawKit.callS X325 hx (y := (⟨"com/example/polytome/polytome/model/SparseVectorToArrayPinLaw", "ok", "([DIIIIIDDD)Z"⟩ : MethodName)) hown (mvT hZ (hw _ (List.mem_of_getElem? (i := 44) rfl))) (mvT hZ (hw _ (List.mem_of_getElem? (i := 45) rfl))) (mvT hZ (hw _ (List.mem_of_getElem? (i := 46) rfl))) (mvT hZ (hw _ (List.mem_of_getElem? (i := 47) rfl))) (by decide) (backOf (W := 0) (rmK l Z a0 hw [] c1 (10 : Int32) k p0 p1 p2 v0 v1 v2 dm (own_c k p0 p1 p2 v0 v1 v2) hM n0 ZM GM bdm.1 (by decide) (fun _ => hce _ (by decide)) (hnn _)) hZ (hw _ (List.mem_of_getElem? (i := 47) rfl)) (hw _ (List.mem_of_getElem? (i := 46) rfl)) (by decide) (by decide)) (g := (mkF m 647 #[.val (.int q1), .val (.int q2), .val (.int q3), .val (.int q4), .val (.int q5), .val (.int k), .val (.int av), .val (.int p0), .val (.int p1), .val (.int p2), .val (.int xt), .val (.int lst), .val (.int dm), .val (.double v0), .second, .val (.double v1), .second, .val (.double v2), .second, .val (.double jk), .second, .val (.ref sv), .val (.ref c1), .val (.ref c2)] [(.double v2), (.double v1), (.double v0), (.int p2), (.int p1), (.int p0), (.int k), (.int (10 : Int32)), (.ref c1)])) rfl (by rw [hml]; rfl) (argsL := [(.ref c1), (.int (10 : Int32)), (.int k), (.int p0), (.int p1), (.int p2), (.double v0), (.double v1), (.double v2)]) (rest := []) (lenOf pd_5 rfl) rfl (by show 2 * 0 + _ ≤ _; exact Nat.le_of_eq rfl) (hb hby at_647) (fun _ _ => ⟨rfl, e325, (by decide : ((((((((((7 + 0) + 0) + 0) + 0) + 0) + 0) + 0) + 0) + 0) + 0) + 0 ≤ _), (by decide : ((((((((((50 + 0) + 0) + 0) + 0) + 0) + 0) + 0) + 0) + 0) + 0) + 0 ≤ _)⟩)
  dsimp only [Pt.U, Pt.locs, Pt.cells, Pt.slots] at X328 l328 y328 z328 st328 hQ328
  subst l328 y328 z328
  obtain ⟨rfl, Nq328, e328⟩ := hQ328
  have N328 := Fr.app N325 Nq328
  have r329 : Steps p.tables e below S0 (T328.setTop (mkF m 650 #[.val (.int q1), .val (.int q2), .val (.int q3), .val (.int q4), .val (.int q5), .val (.int k), .val (.int av), .val (.int p0), .val (.int p1), .val (.int p2), .val (.int xt), .val (.int lst), .val (.int dm), .val (.double v0), .second, .val (.double v1), .second, .val (.double v2), .second, .val (.double jk), .second, .val (.ref sv), .val (.ref c1), .val (.ref c2)] [(.int (1 : Int32))])) := r327.trans (st328 _ (Steps.refl _))
  have r330 : Steps p.tables e below S0 (T328.setTop (mkF m 671 #[.val (.int q1), .val (.int q2), .val (.int q3), .val (.int q4), .val (.int q5), .val (.int k), .val (.int av), .val (.int p0), .val (.int p1), .val (.int p2), .val (.int xt), .val (.int lst), .val (.int dm), .val (.double v0), .second, .val (.double v1), .second, .val (.double v2), .second, .val (.double jk), .second, .val (.ref sv), .val (.ref c1), .val (.ref c2)] [(.double v2), (.double v1), (.double v0), (.int p2), (.int p1), (.int p0), (.int k), (.int (11 : Int32)), (.ref c1)])) := by
    refine r329.trans ?_
    show Steps p.tables e below (T328.setTop (mkF m 650 #[.val (.int q1), .val (.int q2), .val (.int q3), .val (.int q4), .val (.int q5), .val (.int k), .val (.int av), .val (.int p0), .val (.int p1), .val (.int p2), .val (.int xt), .val (.int lst), .val (.int dm), .val (.double v0), .second, .val (.double v1), .second, .val (.double v2), .second, .val (.double jk), .second, .val (.ref sv), .val (.ref c1), .val (.ref c2)] [(.int (1 : Int32))])) _
    refine XS.ifNo X328.here hx rfl (hb hby at_650) rfl ((if0 _ _).trans (feq (by decide)).1) ?_
    show Steps p.tables e below (T328.setTop (mkF m 653 #[.val (.int q1), .val (.int q2), .val (.int q3), .val (.int q4), .val (.int q5), .val (.int k), .val (.int av), .val (.int p0), .val (.int p1), .val (.int p2), .val (.int xt), .val (.int lst), .val (.int dm), .val (.double v0), .second, .val (.double v1), .second, .val (.double v2), .second, .val (.double jk), .second, .val (.ref sv), .val (.ref c1), .val (.ref c2)] [])) _
    refine XS.aload X328.here hx rfl (hb hby at_653) rfl rfl ?_
    show Steps p.tables e below (T328.setTop (mkF m 655 #[.val (.int q1), .val (.int q2), .val (.int q3), .val (.int q4), .val (.int q5), .val (.int k), .val (.int av), .val (.int p0), .val (.int p1), .val (.int p2), .val (.int xt), .val (.int lst), .val (.int dm), .val (.double v0), .second, .val (.double v1), .second, .val (.double v2), .second, .val (.double jk), .second, .val (.ref sv), .val (.ref c1), .val (.ref c2)] [(.ref c1)])) _
    refine XS.bipush X328.here hx rfl (hb hby at_655) ?_
    show Steps p.tables e below (T328.setTop (mkF m 657 #[.val (.int q1), .val (.int q2), .val (.int q3), .val (.int q4), .val (.int q5), .val (.int k), .val (.int av), .val (.int p0), .val (.int p1), .val (.int p2), .val (.int xt), .val (.int lst), .val (.int dm), .val (.double v0), .second, .val (.double v1), .second, .val (.double v2), .second, .val (.double jk), .second, .val (.ref sv), .val (.ref c1), .val (.ref c2)] [(.int (11 : Int32)), (.ref c1)])) _
    refine XS.iload X328.here hx rfl (hb hby at_657) rfl ?_
    show Steps p.tables e below (T328.setTop (mkF m 659 #[.val (.int q1), .val (.int q2), .val (.int q3), .val (.int q4), .val (.int q5), .val (.int k), .val (.int av), .val (.int p0), .val (.int p1), .val (.int p2), .val (.int xt), .val (.int lst), .val (.int dm), .val (.double v0), .second, .val (.double v1), .second, .val (.double v2), .second, .val (.double jk), .second, .val (.ref sv), .val (.ref c1), .val (.ref c2)] [(.int k), (.int (11 : Int32)), (.ref c1)])) _
    refine XS.iload X328.here hx rfl (hb hby at_659) rfl ?_
    show Steps p.tables e below (T328.setTop (mkF m 661 #[.val (.int q1), .val (.int q2), .val (.int q3), .val (.int q4), .val (.int q5), .val (.int k), .val (.int av), .val (.int p0), .val (.int p1), .val (.int p2), .val (.int xt), .val (.int lst), .val (.int dm), .val (.double v0), .second, .val (.double v1), .second, .val (.double v2), .second, .val (.double jk), .second, .val (.ref sv), .val (.ref c1), .val (.ref c2)] [(.int p0), (.int k), (.int (11 : Int32)), (.ref c1)])) _
    refine XS.iload X328.here hx rfl (hb hby at_661) rfl ?_
    show Steps p.tables e below (T328.setTop (mkF m 663 #[.val (.int q1), .val (.int q2), .val (.int q3), .val (.int q4), .val (.int q5), .val (.int k), .val (.int av), .val (.int p0), .val (.int p1), .val (.int p2), .val (.int xt), .val (.int lst), .val (.int dm), .val (.double v0), .second, .val (.double v1), .second, .val (.double v2), .second, .val (.double jk), .second, .val (.ref sv), .val (.ref c1), .val (.ref c2)] [(.int p1), (.int p0), (.int k), (.int (11 : Int32)), (.ref c1)])) _
    refine XS.iload X328.here hx rfl (hb hby at_663) rfl ?_
    show Steps p.tables e below (T328.setTop (mkF m 665 #[.val (.int q1), .val (.int q2), .val (.int q3), .val (.int q4), .val (.int q5), .val (.int k), .val (.int av), .val (.int p0), .val (.int p1), .val (.int p2), .val (.int xt), .val (.int lst), .val (.int dm), .val (.double v0), .second, .val (.double v1), .second, .val (.double v2), .second, .val (.double jk), .second, .val (.ref sv), .val (.ref c1), .val (.ref c2)] [(.int p2), (.int p1), (.int p0), (.int k), (.int (11 : Int32)), (.ref c1)])) _
    refine XS.dload X328.here hx rfl (hb hby at_665) rfl ?_
    show Steps p.tables e below (T328.setTop (mkF m 667 #[.val (.int q1), .val (.int q2), .val (.int q3), .val (.int q4), .val (.int q5), .val (.int k), .val (.int av), .val (.int p0), .val (.int p1), .val (.int p2), .val (.int xt), .val (.int lst), .val (.int dm), .val (.double v0), .second, .val (.double v1), .second, .val (.double v2), .second, .val (.double jk), .second, .val (.ref sv), .val (.ref c1), .val (.ref c2)] [(.double v0), (.int p2), (.int p1), (.int p0), (.int k), (.int (11 : Int32)), (.ref c1)])) _
    refine XS.dload X328.here hx rfl (hb hby at_667) rfl ?_
    show Steps p.tables e below (T328.setTop (mkF m 669 #[.val (.int q1), .val (.int q2), .val (.int q3), .val (.int q4), .val (.int q5), .val (.int k), .val (.int av), .val (.int p0), .val (.int p1), .val (.int p2), .val (.int xt), .val (.int lst), .val (.int dm), .val (.double v0), .second, .val (.double v1), .second, .val (.double v2), .second, .val (.double jk), .second, .val (.ref sv), .val (.ref c1), .val (.ref c2)] [(.double v1), (.double v0), (.int p2), (.int p1), (.int p0), (.int k), (.int (11 : Int32)), (.ref c1)])) _
    refine XS.dload X328.here hx rfl (hb hby at_669) rfl ?_
    exact Steps.refl _
  obtain ⟨_, _, ⟨T331, L331, k331, n331⟩, -, X331, ⟨Lc331, hQ331, l331, y331, z331⟩, st331⟩ := Jvm.LawKit.callS X328 hx (y := (⟨"com/example/polytome/polytome/model/SparseVectorToArrayPinLaw", "ok", "([DIIIIIDDD)Z"⟩ : MethodName)) hown (mvT hZ (hw _ (List.mem_of_getElem? (i := 44) rfl))) (mvT hZ (hw _ (List.mem_of_getElem? (i := 45) rfl))) (mvT hZ (hw _ (List.mem_of_getElem? (i := 46) rfl))) (mvT hZ (hw _ (List.mem_of_getElem? (i := 47) rfl))) (by decide) (backOf (W := 0) (rmK l Z a0 hw [] c1 (11 : Int32) k p0 p1 p2 v0 v1 v2 dm (own_c k p0 p1 p2 v0 v1 v2) hM n0 ZM GM bdm.1 (by decide) (fun _ => hce _ (by decide)) (hnn _)) hZ (hw _ (List.mem_of_getElem? (i := 47) rfl)) (hw _ (List.mem_of_getElem? (i := 46) rfl)) (by decide) (by decide)) (g := (mkF m 671 #[.val (.int q1), .val (.int q2), .val (.int q3), .val (.int q4), .val (.int q5), .val (.int k), .val (.int av), .val (.int p0), .val (.int p1), .val (.int p2), .val (.int xt), .val (.int lst), .val (.int dm), .val (.double v0), .second, .val (.double v1), .second, .val (.double v2), .second, .val (.double jk), .second, .val (.ref sv), .val (.ref c1), .val (.ref c2)] [(.double v2), (.double v1), (.double v0), (.int p2), (.int p1), (.int p0), (.int k), (.int (11 : Int32)), (.ref c1)])) rfl (by rw [hml]; rfl) (argsL := [(.ref c1), (.int (11 : Int32)), (.int k), (.int p0), (.int p1), (.int p2), (.double v0), (.double v1), (.double v2)]) (rest := []) (lenOf pd_5 rfl) rfl (by show 2 * 0 + _ ≤ _; exact Nat.le_of_eq rfl) (hb hby at_671) (fun _ _ => ⟨rfl, e328, (by decide : (((((((((((7 + 0) + 0) + 0) + 0) + 0) + 0) + 0) + 0) + 0) + 0) + 0) + 0 ≤ _), (by decide : (((((((((((50 + 0) + 0) + 0) + 0) + 0) + 0) + 0) + 0) + 0) + 0) + 0) + 0 ≤ _)⟩)
  dsimp only [Pt.U, Pt.locs, Pt.cells, Pt.slots] at X331 l331 y331 z331 st331 hQ331
  subst l331 y331 z331
  obtain ⟨rfl, Nq331, e331⟩ := hQ331
  have N331 := Fr.app N328 Nq331
  have r332 : Steps p.tables e below S0 (T331.setTop (mkF m 674 #[.val (.int q1), .val (.int q2), .val (.int q3), .val (.int q4), .val (.int q5), .val (.int k), .val (.int av), .val (.int p0), .val (.int p1), .val (.int p2), .val (.int xt), .val (.int lst), .val (.int dm), .val (.double v0), .second, .val (.double v1), .second, .val (.double v2), .second, .val (.double jk), .second, .val (.ref sv), .val (.ref c1), .val (.ref c2)] [(.int (1 : Int32))])) := r330.trans (st331 _ (Steps.refl _))
  have r333 : Steps p.tables e below S0 (T331.setTop (mkF m 695 #[.val (.int q1), .val (.int q2), .val (.int q3), .val (.int q4), .val (.int q5), .val (.int k), .val (.int av), .val (.int p0), .val (.int p1), .val (.int p2), .val (.int xt), .val (.int lst), .val (.int dm), .val (.double v0), .second, .val (.double v1), .second, .val (.double v2), .second, .val (.double jk), .second, .val (.ref sv), .val (.ref c1), .val (.ref c2)] [(.double v2), (.double v1), (.double v0), (.int p2), (.int p1), (.int p0), (.int k), (.int (12 : Int32)), (.ref c1)])) := by
    refine r332.trans ?_
    show Steps p.tables e below (T331.setTop (mkF m 674 #[.val (.int q1), .val (.int q2), .val (.int q3), .val (.int q4), .val (.int q5), .val (.int k), .val (.int av), .val (.int p0), .val (.int p1), .val (.int p2), .val (.int xt), .val (.int lst), .val (.int dm), .val (.double v0), .second, .val (.double v1), .second, .val (.double v2), .second, .val (.double jk), .second, .val (.ref sv), .val (.ref c1), .val (.ref c2)] [(.int (1 : Int32))])) _
    refine XS.ifNo X331.here hx rfl (hb hby at_674) rfl ((if0 _ _).trans (feq (by decide)).1) ?_
    show Steps p.tables e below (T331.setTop (mkF m 677 #[.val (.int q1), .val (.int q2), .val (.int q3), .val (.int q4), .val (.int q5), .val (.int k), .val (.int av), .val (.int p0), .val (.int p1), .val (.int p2), .val (.int xt), .val (.int lst), .val (.int dm), .val (.double v0), .second, .val (.double v1), .second, .val (.double v2), .second, .val (.double jk), .second, .val (.ref sv), .val (.ref c1), .val (.ref c2)] [])) _
    refine XS.aload X331.here hx rfl (hb hby at_677) rfl rfl ?_
    show Steps p.tables e below (T331.setTop (mkF m 679 #[.val (.int q1), .val (.int q2), .val (.int q3), .val (.int q4), .val (.int q5), .val (.int k), .val (.int av), .val (.int p0), .val (.int p1), .val (.int p2), .val (.int xt), .val (.int lst), .val (.int dm), .val (.double v0), .second, .val (.double v1), .second, .val (.double v2), .second, .val (.double jk), .second, .val (.ref sv), .val (.ref c1), .val (.ref c2)] [(.ref c1)])) _
    refine XS.bipush X331.here hx rfl (hb hby at_679) ?_
    show Steps p.tables e below (T331.setTop (mkF m 681 #[.val (.int q1), .val (.int q2), .val (.int q3), .val (.int q4), .val (.int q5), .val (.int k), .val (.int av), .val (.int p0), .val (.int p1), .val (.int p2), .val (.int xt), .val (.int lst), .val (.int dm), .val (.double v0), .second, .val (.double v1), .second, .val (.double v2), .second, .val (.double jk), .second, .val (.ref sv), .val (.ref c1), .val (.ref c2)] [(.int (12 : Int32)), (.ref c1)])) _
    refine XS.iload X331.here hx rfl (hb hby at_681) rfl ?_
    show Steps p.tables e below (T331.setTop (mkF m 683 #[.val (.int q1), .val (.int q2), .val (.int q3), .val (.int q4), .val (.int q5), .val (.int k), .val (.int av), .val (.int p0), .val (.int p1), .val (.int p2), .val (.int xt), .val (.int lst), .val (.int dm), .val (.double v0), .second, .val (.double v1), .second, .val (.double v2), .second, .val (.double jk), .second, .val (.ref sv), .val (.ref c1), .val (.ref c2)] [(.int k), (.int (12 : Int32)), (.ref c1)])) _
    refine XS.iload X331.here hx rfl (hb hby at_683) rfl ?_
    show Steps p.tables e below (T331.setTop (mkF m 685 #[.val (.int q1), .val (.int q2), .val (.int q3), .val (.int q4), .val (.int q5), .val (.int k), .val (.int av), .val (.int p0), .val (.int p1), .val (.int p2), .val (.int xt), .val (.int lst), .val (.int dm), .val (.double v0), .second, .val (.double v1), .second, .val (.double v2), .second, .val (.double jk), .second, .val (.ref sv), .val (.ref c1), .val (.ref c2)] [(.int p0), (.int k), (.int (12 : Int32)), (.ref c1)])) _
    refine XS.iload X331.here hx rfl (hb hby at_685) rfl ?_
    show Steps p.tables e below (T331.setTop (mkF m 687 #[.val (.int q1), .val (.int q2), .val (.int q3), .val (.int q4), .val (.int q5), .val (.int k), .val (.int av), .val (.int p0), .val (.int p1), .val (.int p2), .val (.int xt), .val (.int lst), .val (.int dm), .val (.double v0), .second, .val (.double v1), .second, .val (.double v2), .second, .val (.double jk), .second, .val (.ref sv), .val (.ref c1), .val (.ref c2)] [(.int p1), (.int p0), (.int k), (.int (12 : Int32)), (.ref c1)])) _
    refine XS.iload X331.here hx rfl (hb hby at_687) rfl ?_
    show Steps p.tables e below (T331.setTop (mkF m 689 #[.val (.int q1), .val (.int q2), .val (.int q3), .val (.int q4), .val (.int q5), .val (.int k), .val (.int av), .val (.int p0), .val (.int p1), .val (.int p2), .val (.int xt), .val (.int lst), .val (.int dm), .val (.double v0), .second, .val (.double v1), .second, .val (.double v2), .second, .val (.double jk), .second, .val (.ref sv), .val (.ref c1), .val (.ref c2)] [(.int p2), (.int p1), (.int p0), (.int k), (.int (12 : Int32)), (.ref c1)])) _
    refine XS.dload X331.here hx rfl (hb hby at_689) rfl ?_
    show Steps p.tables e below (T331.setTop (mkF m 691 #[.val (.int q1), .val (.int q2), .val (.int q3), .val (.int q4), .val (.int q5), .val (.int k), .val (.int av), .val (.int p0), .val (.int p1), .val (.int p2), .val (.int xt), .val (.int lst), .val (.int dm), .val (.double v0), .second, .val (.double v1), .second, .val (.double v2), .second, .val (.double jk), .second, .val (.ref sv), .val (.ref c1), .val (.ref c2)] [(.double v0), (.int p2), (.int p1), (.int p0), (.int k), (.int (12 : Int32)), (.ref c1)])) _
    refine XS.dload X331.here hx rfl (hb hby at_691) rfl ?_
    show Steps p.tables e below (T331.setTop (mkF m 693 #[.val (.int q1), .val (.int q2), .val (.int q3), .val (.int q4), .val (.int q5), .val (.int k), .val (.int av), .val (.int p0), .val (.int p1), .val (.int p2), .val (.int xt), .val (.int lst), .val (.int dm), .val (.double v0), .second, .val (.double v1), .second, .val (.double v2), .second, .val (.double jk), .second, .val (.ref sv), .val (.ref c1), .val (.ref c2)] [(.double v1), (.double v0), (.int p2), (.int p1), (.int p0), (.int k), (.int (12 : Int32)), (.ref c1)])) _
    refine XS.dload X331.here hx rfl (hb hby at_693) rfl ?_
    exact Steps.refl _
  obtain ⟨_, _, ⟨T334, L334, k334, n334⟩, -, X334, ⟨Lc334, hQ334, l334, y334, z334⟩, st334⟩ := Jvm.LawKit.callS X331 hx (y := (⟨"com/example/polytome/polytome/model/SparseVectorToArrayPinLaw", "ok", "([DIIIIIDDD)Z"⟩ : MethodName)) hown (mvT hZ (hw _ (List.mem_of_getElem? (i := 44) rfl))) (mvT hZ (hw _ (List.mem_of_getElem? (i := 45) rfl))) (mvT hZ (hw _ (List.mem_of_getElem? (i := 46) rfl))) (mvT hZ (hw _ (List.mem_of_getElem? (i := 47) rfl))) (by decide) (backOf (W := 0) (rmK l Z a0 hw [] c1 (12 : Int32) k p0 p1 p2 v0 v1 v2 dm (own_c k p0 p1 p2 v0 v1 v2) hM n0 ZM GM bdm.1 (by decide) (fun _ => hce _ (by decide)) (hnn _)) hZ (hw _ (List.mem_of_getElem? (i := 47) rfl)) (hw _ (List.mem_of_getElem? (i := 46) rfl)) (by decide) (by decide)) (g := (mkF m 695 #[.val (.int q1), .val (.int q2), .val (.int q3), .val (.int q4), .val (.int q5), .val (.int k), .val (.int av), .val (.int p0), .val (.int p1), .val (.int p2), .val (.int xt), .val (.int lst), .val (.int dm), .val (.double v0), .second, .val (.double v1), .second, .val (.double v2), .second, .val (.double jk), .second, .val (.ref sv), .val (.ref c1), .val (.ref c2)] [(.double v2), (.double v1), (.double v0), (.int p2), (.int p1), (.int p0), (.int k), (.int (12 : Int32)), (.ref c1)])) rfl (by rw [hml]; rfl) (argsL := [(.ref c1), (.int (12 : Int32)), (.int k), (.int p0), (.int p1), (.int p2), (.double v0), (.double v1), (.double v2)]) (rest := []) (lenOf pd_5 rfl) rfl (by show 2 * 0 + _ ≤ _; exact Nat.le_of_eq rfl) (hb hby at_695) (fun _ _ => ⟨rfl, e331, (by decide : ((((((((((((7 + 0) + 0) + 0) + 0) + 0) + 0) + 0) + 0) + 0) + 0) + 0) + 0) + 0 ≤ _), (by decide : ((((((((((((50 + 0) + 0) + 0) + 0) + 0) + 0) + 0) + 0) + 0) + 0) + 0) + 0) + 0 ≤ _)⟩)
  dsimp only [Pt.U, Pt.locs, Pt.cells, Pt.slots] at X334 l334 y334 z334 st334 hQ334
  subst l334 y334 z334
  obtain ⟨rfl, Nq334, e334⟩ := hQ334
  have N334 := Fr.app N331 Nq334
  have r335 : Steps p.tables e below S0 (T334.setTop (mkF m 698 #[.val (.int q1), .val (.int q2), .val (.int q3), .val (.int q4), .val (.int q5), .val (.int k), .val (.int av), .val (.int p0), .val (.int p1), .val (.int p2), .val (.int xt), .val (.int lst), .val (.int dm), .val (.double v0), .second, .val (.double v1), .second, .val (.double v2), .second, .val (.double jk), .second, .val (.ref sv), .val (.ref c1), .val (.ref c2)] [(.int (1 : Int32))])) := r333.trans (st334 _ (Steps.refl _))
  have r336 : Steps p.tables e below S0 (T334.setTop (mkF m 719 #[.val (.int q1), .val (.int q2), .val (.int q3), .val (.int q4), .val (.int q5), .val (.int k), .val (.int av), .val (.int p0), .val (.int p1), .val (.int p2), .val (.int xt), .val (.int lst), .val (.int dm), .val (.double v0), .second, .val (.double v1), .second, .val (.double v2), .second, .val (.double jk), .second, .val (.ref sv), .val (.ref c1), .val (.ref c2)] [(.double v2), (.double v1), (.double v0), (.int p2), (.int p1), (.int p0), (.int k), (.int (13 : Int32)), (.ref c1)])) := by
    refine r335.trans ?_
    show Steps p.tables e below (T334.setTop (mkF m 698 #[.val (.int q1), .val (.int q2), .val (.int q3), .val (.int q4), .val (.int q5), .val (.int k), .val (.int av), .val (.int p0), .val (.int p1), .val (.int p2), .val (.int xt), .val (.int lst), .val (.int dm), .val (.double v0), .second, .val (.double v1), .second, .val (.double v2), .second, .val (.double jk), .second, .val (.ref sv), .val (.ref c1), .val (.ref c2)] [(.int (1 : Int32))])) _
    refine XS.ifNo X334.here hx rfl (hb hby at_698) rfl ((if0 _ _).trans (feq (by decide)).1) ?_
    show Steps p.tables e below (T334.setTop (mkF m 701 #[.val (.int q1), .val (.int q2), .val (.int q3), .val (.int q4), .val (.int q5), .val (.int k), .val (.int av), .val (.int p0), .val (.int p1), .val (.int p2), .val (.int xt), .val (.int lst), .val (.int dm), .val (.double v0), .second, .val (.double v1), .second, .val (.double v2), .second, .val (.double jk), .second, .val (.ref sv), .val (.ref c1), .val (.ref c2)] [])) _
    refine XS.aload X334.here hx rfl (hb hby at_701) rfl rfl ?_
    show Steps p.tables e below (T334.setTop (mkF m 703 #[.val (.int q1), .val (.int q2), .val (.int q3), .val (.int q4), .val (.int q5), .val (.int k), .val (.int av), .val (.int p0), .val (.int p1), .val (.int p2), .val (.int xt), .val (.int lst), .val (.int dm), .val (.double v0), .second, .val (.double v1), .second, .val (.double v2), .second, .val (.double jk), .second, .val (.ref sv), .val (.ref c1), .val (.ref c2)] [(.ref c1)])) _
    refine XS.bipush X334.here hx rfl (hb hby at_703) ?_
    show Steps p.tables e below (T334.setTop (mkF m 705 #[.val (.int q1), .val (.int q2), .val (.int q3), .val (.int q4), .val (.int q5), .val (.int k), .val (.int av), .val (.int p0), .val (.int p1), .val (.int p2), .val (.int xt), .val (.int lst), .val (.int dm), .val (.double v0), .second, .val (.double v1), .second, .val (.double v2), .second, .val (.double jk), .second, .val (.ref sv), .val (.ref c1), .val (.ref c2)] [(.int (13 : Int32)), (.ref c1)])) _
    refine XS.iload X334.here hx rfl (hb hby at_705) rfl ?_
    show Steps p.tables e below (T334.setTop (mkF m 707 #[.val (.int q1), .val (.int q2), .val (.int q3), .val (.int q4), .val (.int q5), .val (.int k), .val (.int av), .val (.int p0), .val (.int p1), .val (.int p2), .val (.int xt), .val (.int lst), .val (.int dm), .val (.double v0), .second, .val (.double v1), .second, .val (.double v2), .second, .val (.double jk), .second, .val (.ref sv), .val (.ref c1), .val (.ref c2)] [(.int k), (.int (13 : Int32)), (.ref c1)])) _
    refine XS.iload X334.here hx rfl (hb hby at_707) rfl ?_
    show Steps p.tables e below (T334.setTop (mkF m 709 #[.val (.int q1), .val (.int q2), .val (.int q3), .val (.int q4), .val (.int q5), .val (.int k), .val (.int av), .val (.int p0), .val (.int p1), .val (.int p2), .val (.int xt), .val (.int lst), .val (.int dm), .val (.double v0), .second, .val (.double v1), .second, .val (.double v2), .second, .val (.double jk), .second, .val (.ref sv), .val (.ref c1), .val (.ref c2)] [(.int p0), (.int k), (.int (13 : Int32)), (.ref c1)])) _
    refine XS.iload X334.here hx rfl (hb hby at_709) rfl ?_
    show Steps p.tables e below (T334.setTop (mkF m 711 #[.val (.int q1), .val (.int q2), .val (.int q3), .val (.int q4), .val (.int q5), .val (.int k), .val (.int av), .val (.int p0), .val (.int p1), .val (.int p2), .val (.int xt), .val (.int lst), .val (.int dm), .val (.double v0), .second, .val (.double v1), .second, .val (.double v2), .second, .val (.double jk), .second, .val (.ref sv), .val (.ref c1), .val (.ref c2)] [(.int p1), (.int p0), (.int k), (.int (13 : Int32)), (.ref c1)])) _
    refine XS.iload X334.here hx rfl (hb hby at_711) rfl ?_
    show Steps p.tables e below (T334.setTop (mkF m 713 #[.val (.int q1), .val (.int q2), .val (.int q3), .val (.int q4), .val (.int q5), .val (.int k), .val (.int av), .val (.int p0), .val (.int p1), .val (.int p2), .val (.int xt), .val (.int lst), .val (.int dm), .val (.double v0), .second, .val (.double v1), .second, .val (.double v2), .second, .val (.double jk), .second, .val (.ref sv), .val (.ref c1), .val (.ref c2)] [(.int p2), (.int p1), (.int p0), (.int k), (.int (13 : Int32)), (.ref c1)])) _
    refine XS.dload X334.here hx rfl (hb hby at_713) rfl ?_
    show Steps p.tables e below (T334.setTop (mkF m 715 #[.val (.int q1), .val (.int q2), .val (.int q3), .val (.int q4), .val (.int q5), .val (.int k), .val (.int av), .val (.int p0), .val (.int p1), .val (.int p2), .val (.int xt), .val (.int lst), .val (.int dm), .val (.double v0), .second, .val (.double v1), .second, .val (.double v2), .second, .val (.double jk), .second, .val (.ref sv), .val (.ref c1), .val (.ref c2)] [(.double v0), (.int p2), (.int p1), (.int p0), (.int k), (.int (13 : Int32)), (.ref c1)])) _
    refine XS.dload X334.here hx rfl (hb hby at_715) rfl ?_
    show Steps p.tables e below (T334.setTop (mkF m 717 #[.val (.int q1), .val (.int q2), .val (.int q3), .val (.int q4), .val (.int q5), .val (.int k), .val (.int av), .val (.int p0), .val (.int p1), .val (.int p2), .val (.int xt), .val (.int lst), .val (.int dm), .val (.double v0), .second, .val (.double v1), .second, .val (.double v2), .second, .val (.double jk), .second, .val (.ref sv), .val (.ref c1), .val (.ref c2)] [(.double v1), (.double v0), (.int p2), (.int p1), (.int p0), (.int k), (.int (13 : Int32)), (.ref c1)])) _
    refine XS.dload X334.here hx rfl (hb hby at_717) rfl ?_
    exact Steps.refl _
  obtain ⟨_, _, ⟨T337, L337, k337, n337⟩, -, X337, ⟨Lc337, hQ337, l337, y337, z337⟩, st337⟩ := Jvm.LawKit.callS X334 hx (y := (⟨"com/example/polytome/polytome/model/SparseVectorToArrayPinLaw", "ok", "([DIIIIIDDD)Z"⟩ : MethodName)) hown (mvT hZ (hw _ (List.mem_of_getElem? (i := 44) rfl))) (mvT hZ (hw _ (List.mem_of_getElem? (i := 45) rfl))) (mvT hZ (hw _ (List.mem_of_getElem? (i := 46) rfl))) (mvT hZ (hw _ (List.mem_of_getElem? (i := 47) rfl))) (by decide) (backOf (W := 0) (rmK l Z a0 hw [] c1 (13 : Int32) k p0 p1 p2 v0 v1 v2 dm (own_c k p0 p1 p2 v0 v1 v2) hM n0 ZM GM bdm.1 (by decide) (fun _ => hce _ (by decide)) (hnn _)) hZ (hw _ (List.mem_of_getElem? (i := 47) rfl)) (hw _ (List.mem_of_getElem? (i := 46) rfl)) (by decide) (by decide)) (g := (mkF m 719 #[.val (.int q1), .val (.int q2), .val (.int q3), .val (.int q4), .val (.int q5), .val (.int k), .val (.int av), .val (.int p0), .val (.int p1), .val (.int p2), .val (.int xt), .val (.int lst), .val (.int dm), .val (.double v0), .second, .val (.double v1), .second, .val (.double v2), .second, .val (.double jk), .second, .val (.ref sv), .val (.ref c1), .val (.ref c2)] [(.double v2), (.double v1), (.double v0), (.int p2), (.int p1), (.int p0), (.int k), (.int (13 : Int32)), (.ref c1)])) rfl (by rw [hml]; rfl) (argsL := [(.ref c1), (.int (13 : Int32)), (.int k), (.int p0), (.int p1), (.int p2), (.double v0), (.double v1), (.double v2)]) (rest := []) (lenOf pd_5 rfl) rfl (by show 2 * 0 + _ ≤ _; exact Nat.le_of_eq rfl) (hb hby at_719) (fun _ _ => ⟨rfl, e334, (by decide : (((((((((((((7 + 0) + 0) + 0) + 0) + 0) + 0) + 0) + 0) + 0) + 0) + 0) + 0) + 0) + 0 ≤ _), (by decide : (((((((((((((50 + 0) + 0) + 0) + 0) + 0) + 0) + 0) + 0) + 0) + 0) + 0) + 0) + 0) + 0 ≤ _)⟩)
  dsimp only [Pt.U, Pt.locs, Pt.cells, Pt.slots] at X337 l337 y337 z337 st337 hQ337
  subst l337 y337 z337
  obtain ⟨rfl, Nq337, e337⟩ := hQ337
  have N337 := Fr.app N334 Nq337
  have r338 : Steps p.tables e below S0 (T337.setTop (mkF m 722 #[.val (.int q1), .val (.int q2), .val (.int q3), .val (.int q4), .val (.int q5), .val (.int k), .val (.int av), .val (.int p0), .val (.int p1), .val (.int p2), .val (.int xt), .val (.int lst), .val (.int dm), .val (.double v0), .second, .val (.double v1), .second, .val (.double v2), .second, .val (.double jk), .second, .val (.ref sv), .val (.ref c1), .val (.ref c2)] [(.int (1 : Int32))])) := r336.trans (st337 _ (Steps.refl _))
  have r339 : Steps p.tables e below S0 (T337.setTop (mkF m 743 #[.val (.int q1), .val (.int q2), .val (.int q3), .val (.int q4), .val (.int q5), .val (.int k), .val (.int av), .val (.int p0), .val (.int p1), .val (.int p2), .val (.int xt), .val (.int lst), .val (.int dm), .val (.double v0), .second, .val (.double v1), .second, .val (.double v2), .second, .val (.double jk), .second, .val (.ref sv), .val (.ref c1), .val (.ref c2)] [(.double v2), (.double v1), (.double v0), (.int p2), (.int p1), (.int p0), (.int k), (.int (14 : Int32)), (.ref c1)])) := by
    refine r338.trans ?_
    show Steps p.tables e below (T337.setTop (mkF m 722 #[.val (.int q1), .val (.int q2), .val (.int q3), .val (.int q4), .val (.int q5), .val (.int k), .val (.int av), .val (.int p0), .val (.int p1), .val (.int p2), .val (.int xt), .val (.int lst), .val (.int dm), .val (.double v0), .second, .val (.double v1), .second, .val (.double v2), .second, .val (.double jk), .second, .val (.ref sv), .val (.ref c1), .val (.ref c2)] [(.int (1 : Int32))])) _
    refine XS.ifNo X337.here hx rfl (hb hby at_722) rfl ((if0 _ _).trans (feq (by decide)).1) ?_
    show Steps p.tables e below (T337.setTop (mkF m 725 #[.val (.int q1), .val (.int q2), .val (.int q3), .val (.int q4), .val (.int q5), .val (.int k), .val (.int av), .val (.int p0), .val (.int p1), .val (.int p2), .val (.int xt), .val (.int lst), .val (.int dm), .val (.double v0), .second, .val (.double v1), .second, .val (.double v2), .second, .val (.double jk), .second, .val (.ref sv), .val (.ref c1), .val (.ref c2)] [])) _
    refine XS.aload X337.here hx rfl (hb hby at_725) rfl rfl ?_
    show Steps p.tables e below (T337.setTop (mkF m 727 #[.val (.int q1), .val (.int q2), .val (.int q3), .val (.int q4), .val (.int q5), .val (.int k), .val (.int av), .val (.int p0), .val (.int p1), .val (.int p2), .val (.int xt), .val (.int lst), .val (.int dm), .val (.double v0), .second, .val (.double v1), .second, .val (.double v2), .second, .val (.double jk), .second, .val (.ref sv), .val (.ref c1), .val (.ref c2)] [(.ref c1)])) _
    refine XS.bipush X337.here hx rfl (hb hby at_727) ?_
    show Steps p.tables e below (T337.setTop (mkF m 729 #[.val (.int q1), .val (.int q2), .val (.int q3), .val (.int q4), .val (.int q5), .val (.int k), .val (.int av), .val (.int p0), .val (.int p1), .val (.int p2), .val (.int xt), .val (.int lst), .val (.int dm), .val (.double v0), .second, .val (.double v1), .second, .val (.double v2), .second, .val (.double jk), .second, .val (.ref sv), .val (.ref c1), .val (.ref c2)] [(.int (14 : Int32)), (.ref c1)])) _
    refine XS.iload X337.here hx rfl (hb hby at_729) rfl ?_
    show Steps p.tables e below (T337.setTop (mkF m 731 #[.val (.int q1), .val (.int q2), .val (.int q3), .val (.int q4), .val (.int q5), .val (.int k), .val (.int av), .val (.int p0), .val (.int p1), .val (.int p2), .val (.int xt), .val (.int lst), .val (.int dm), .val (.double v0), .second, .val (.double v1), .second, .val (.double v2), .second, .val (.double jk), .second, .val (.ref sv), .val (.ref c1), .val (.ref c2)] [(.int k), (.int (14 : Int32)), (.ref c1)])) _
    refine XS.iload X337.here hx rfl (hb hby at_731) rfl ?_
    show Steps p.tables e below (T337.setTop (mkF m 733 #[.val (.int q1), .val (.int q2), .val (.int q3), .val (.int q4), .val (.int q5), .val (.int k), .val (.int av), .val (.int p0), .val (.int p1), .val (.int p2), .val (.int xt), .val (.int lst), .val (.int dm), .val (.double v0), .second, .val (.double v1), .second, .val (.double v2), .second, .val (.double jk), .second, .val (.ref sv), .val (.ref c1), .val (.ref c2)] [(.int p0), (.int k), (.int (14 : Int32)), (.ref c1)])) _
    refine XS.iload X337.here hx rfl (hb hby at_733) rfl ?_
    show Steps p.tables e below (T337.setTop (mkF m 735 #[.val (.int q1), .val (.int q2), .val (.int q3), .val (.int q4), .val (.int q5), .val (.int k), .val (.int av), .val (.int p0), .val (.int p1), .val (.int p2), .val (.int xt), .val (.int lst), .val (.int dm), .val (.double v0), .second, .val (.double v1), .second, .val (.double v2), .second, .val (.double jk), .second, .val (.ref sv), .val (.ref c1), .val (.ref c2)] [(.int p1), (.int p0), (.int k), (.int (14 : Int32)), (.ref c1)])) _
    refine XS.iload X337.here hx rfl (hb hby at_735) rfl ?_
    show Steps p.tables e below (T337.setTop (mkF m 737 #[.val (.int q1), .val (.int q2), .val (.int q3), .val (.int q4), .val (.int q5), .val (.int k), .val (.int av), .val (.int p0), .val (.int p1), .val (.int p2), .val (.int xt), .val (.int lst), .val (.int dm), .val (.double v0), .second, .val (.double v1), .second, .val (.double v2), .second, .val (.double jk), .second, .val (.ref sv), .val (.ref c1), .val (.ref c2)] [(.int p2), (.int p1), (.int p0), (.int k), (.int (14 : Int32)), (.ref c1)])) _
    refine XS.dload X337.here hx rfl (hb hby at_737) rfl ?_
    show Steps p.tables e below (T337.setTop (mkF m 739 #[.val (.int q1), .val (.int q2), .val (.int q3), .val (.int q4), .val (.int q5), .val (.int k), .val (.int av), .val (.int p0), .val (.int p1), .val (.int p2), .val (.int xt), .val (.int lst), .val (.int dm), .val (.double v0), .second, .val (.double v1), .second, .val (.double v2), .second, .val (.double jk), .second, .val (.ref sv), .val (.ref c1), .val (.ref c2)] [(.double v0), (.int p2), (.int p1), (.int p0), (.int k), (.int (14 : Int32)), (.ref c1)])) _
    refine XS.dload X337.here hx rfl (hb hby at_739) rfl ?_
    show Steps p.tables e below (T337.setTop (mkF m 741 #[.val (.int q1), .val (.int q2), .val (.int q3), .val (.int q4), .val (.int q5), .val (.int k), .val (.int av), .val (.int p0), .val (.int p1), .val (.int p2), .val (.int xt), .val (.int lst), .val (.int dm), .val (.double v0), .second, .val (.double v1), .second, .val (.double v2), .second, .val (.double jk), .second, .val (.ref sv), .val (.ref c1), .val (.ref c2)] [(.double v1), (.double v0), (.int p2), (.int p1), (.int p0), (.int k), (.int (14 : Int32)), (.ref c1)])) _
    refine XS.dload X337.here hx rfl (hb hby at_741) rfl ?_
    exact Steps.refl _
  obtain ⟨_, _, ⟨T340, L340, k340, n340⟩, -, X340, ⟨Lc340, hQ340, l340, y340, z340⟩, st340⟩ := Jvm.LawKit.callS X337 hx (y := (⟨"com/example/polytome/polytome/model/SparseVectorToArrayPinLaw", "ok", "([DIIIIIDDD)Z"⟩ : MethodName)) hown (mvT hZ (hw _ (List.mem_of_getElem? (i := 44) rfl))) (mvT hZ (hw _ (List.mem_of_getElem? (i := 45) rfl))) (mvT hZ (hw _ (List.mem_of_getElem? (i := 46) rfl))) (mvT hZ (hw _ (List.mem_of_getElem? (i := 47) rfl))) (by decide) (backOf (W := 0) (rmK l Z a0 hw [] c1 (14 : Int32) k p0 p1 p2 v0 v1 v2 dm (own_c k p0 p1 p2 v0 v1 v2) hM n0 ZM GM bdm.1 (by decide) (fun _ => hce _ (by decide)) (hnn _)) hZ (hw _ (List.mem_of_getElem? (i := 47) rfl)) (hw _ (List.mem_of_getElem? (i := 46) rfl)) (by decide) (by decide)) (g := (mkF m 743 #[.val (.int q1), .val (.int q2), .val (.int q3), .val (.int q4), .val (.int q5), .val (.int k), .val (.int av), .val (.int p0), .val (.int p1), .val (.int p2), .val (.int xt), .val (.int lst), .val (.int dm), .val (.double v0), .second, .val (.double v1), .second, .val (.double v2), .second, .val (.double jk), .second, .val (.ref sv), .val (.ref c1), .val (.ref c2)] [(.double v2), (.double v1), (.double v0), (.int p2), (.int p1), (.int p0), (.int k), (.int (14 : Int32)), (.ref c1)])) rfl (by rw [hml]; rfl) (argsL := [(.ref c1), (.int (14 : Int32)), (.int k), (.int p0), (.int p1), (.int p2), (.double v0), (.double v1), (.double v2)]) (rest := []) (lenOf pd_5 rfl) rfl (by show 2 * 0 + _ ≤ _; exact Nat.le_of_eq rfl) (hb hby at_743) (fun _ _ => ⟨rfl, e337, (by decide : ((((((((((((((7 + 0) + 0) + 0) + 0) + 0) + 0) + 0) + 0) + 0) + 0) + 0) + 0) + 0) + 0) + 0 ≤ _), (by decide : ((((((((((((((50 + 0) + 0) + 0) + 0) + 0) + 0) + 0) + 0) + 0) + 0) + 0) + 0) + 0) + 0) + 0 ≤ _)⟩)
  dsimp only [Pt.U, Pt.locs, Pt.cells, Pt.slots] at X340 l340 y340 z340 st340 hQ340
  subst l340 y340 z340
  obtain ⟨rfl, Nq340, e340⟩ := hQ340
  have N340 := Fr.app N337 Nq340
  have r341 : Steps p.tables e below S0 (T340.setTop (mkF m 746 #[.val (.int q1), .val (.int q2), .val (.int q3), .val (.int q4), .val (.int q5), .val (.int k), .val (.int av), .val (.int p0), .val (.int p1), .val (.int p2), .val (.int xt), .val (.int lst), .val (.int dm), .val (.double v0), .second, .val (.double v1), .second, .val (.double v2), .second, .val (.double jk), .second, .val (.ref sv), .val (.ref c1), .val (.ref c2)] [(.int (1 : Int32))])) := r339.trans (st340 _ (Steps.refl _))
  have r342 : Steps p.tables e below S0 (T340.setTop (mkF m 767 #[.val (.int q1), .val (.int q2), .val (.int q3), .val (.int q4), .val (.int q5), .val (.int k), .val (.int av), .val (.int p0), .val (.int p1), .val (.int p2), .val (.int xt), .val (.int lst), .val (.int dm), .val (.double v0), .second, .val (.double v1), .second, .val (.double v2), .second, .val (.double jk), .second, .val (.ref sv), .val (.ref c1), .val (.ref c2)] [(.double v2), (.double v1), (.double v0), (.int p2), (.int p1), (.int p0), (.int k), (.int (15 : Int32)), (.ref c1)])) := by
    refine r341.trans ?_
    show Steps p.tables e below (T340.setTop (mkF m 746 #[.val (.int q1), .val (.int q2), .val (.int q3), .val (.int q4), .val (.int q5), .val (.int k), .val (.int av), .val (.int p0), .val (.int p1), .val (.int p2), .val (.int xt), .val (.int lst), .val (.int dm), .val (.double v0), .second, .val (.double v1), .second, .val (.double v2), .second, .val (.double jk), .second, .val (.ref sv), .val (.ref c1), .val (.ref c2)] [(.int (1 : Int32))])) _
    refine XS.ifNo X340.here hx rfl (hb hby at_746) rfl ((if0 _ _).trans (feq (by decide)).1) ?_
    show Steps p.tables e below (T340.setTop (mkF m 749 #[.val (.int q1), .val (.int q2), .val (.int q3), .val (.int q4), .val (.int q5), .val (.int k), .val (.int av), .val (.int p0), .val (.int p1), .val (.int p2), .val (.int xt), .val (.int lst), .val (.int dm), .val (.double v0), .second, .val (.double v1), .second, .val (.double v2), .second, .val (.double jk), .second, .val (.ref sv), .val (.ref c1), .val (.ref c2)] [])) _
    refine XS.aload X340.here hx rfl (hb hby at_749) rfl rfl ?_
    show Steps p.tables e below (T340.setTop (mkF m 751 #[.val (.int q1), .val (.int q2), .val (.int q3), .val (.int q4), .val (.int q5), .val (.int k), .val (.int av), .val (.int p0), .val (.int p1), .val (.int p2), .val (.int xt), .val (.int lst), .val (.int dm), .val (.double v0), .second, .val (.double v1), .second, .val (.double v2), .second, .val (.double jk), .second, .val (.ref sv), .val (.ref c1), .val (.ref c2)] [(.ref c1)])) _
    refine XS.bipush X340.here hx rfl (hb hby at_751) ?_
    show Steps p.tables e below (T340.setTop (mkF m 753 #[.val (.int q1), .val (.int q2), .val (.int q3), .val (.int q4), .val (.int q5), .val (.int k), .val (.int av), .val (.int p0), .val (.int p1), .val (.int p2), .val (.int xt), .val (.int lst), .val (.int dm), .val (.double v0), .second, .val (.double v1), .second, .val (.double v2), .second, .val (.double jk), .second, .val (.ref sv), .val (.ref c1), .val (.ref c2)] [(.int (15 : Int32)), (.ref c1)])) _
    refine XS.iload X340.here hx rfl (hb hby at_753) rfl ?_
    show Steps p.tables e below (T340.setTop (mkF m 755 #[.val (.int q1), .val (.int q2), .val (.int q3), .val (.int q4), .val (.int q5), .val (.int k), .val (.int av), .val (.int p0), .val (.int p1), .val (.int p2), .val (.int xt), .val (.int lst), .val (.int dm), .val (.double v0), .second, .val (.double v1), .second, .val (.double v2), .second, .val (.double jk), .second, .val (.ref sv), .val (.ref c1), .val (.ref c2)] [(.int k), (.int (15 : Int32)), (.ref c1)])) _
    refine XS.iload X340.here hx rfl (hb hby at_755) rfl ?_
    show Steps p.tables e below (T340.setTop (mkF m 757 #[.val (.int q1), .val (.int q2), .val (.int q3), .val (.int q4), .val (.int q5), .val (.int k), .val (.int av), .val (.int p0), .val (.int p1), .val (.int p2), .val (.int xt), .val (.int lst), .val (.int dm), .val (.double v0), .second, .val (.double v1), .second, .val (.double v2), .second, .val (.double jk), .second, .val (.ref sv), .val (.ref c1), .val (.ref c2)] [(.int p0), (.int k), (.int (15 : Int32)), (.ref c1)])) _
    refine XS.iload X340.here hx rfl (hb hby at_757) rfl ?_
    show Steps p.tables e below (T340.setTop (mkF m 759 #[.val (.int q1), .val (.int q2), .val (.int q3), .val (.int q4), .val (.int q5), .val (.int k), .val (.int av), .val (.int p0), .val (.int p1), .val (.int p2), .val (.int xt), .val (.int lst), .val (.int dm), .val (.double v0), .second, .val (.double v1), .second, .val (.double v2), .second, .val (.double jk), .second, .val (.ref sv), .val (.ref c1), .val (.ref c2)] [(.int p1), (.int p0), (.int k), (.int (15 : Int32)), (.ref c1)])) _
    refine XS.iload X340.here hx rfl (hb hby at_759) rfl ?_
    show Steps p.tables e below (T340.setTop (mkF m 761 #[.val (.int q1), .val (.int q2), .val (.int q3), .val (.int q4), .val (.int q5), .val (.int k), .val (.int av), .val (.int p0), .val (.int p1), .val (.int p2), .val (.int xt), .val (.int lst), .val (.int dm), .val (.double v0), .second, .val (.double v1), .second, .val (.double v2), .second, .val (.double jk), .second, .val (.ref sv), .val (.ref c1), .val (.ref c2)] [(.int p2), (.int p1), (.int p0), (.int k), (.int (15 : Int32)), (.ref c1)])) _
    refine XS.dload X340.here hx rfl (hb hby at_761) rfl ?_
    show Steps p.tables e below (T340.setTop (mkF m 763 #[.val (.int q1), .val (.int q2), .val (.int q3), .val (.int q4), .val (.int q5), .val (.int k), .val (.int av), .val (.int p0), .val (.int p1), .val (.int p2), .val (.int xt), .val (.int lst), .val (.int dm), .val (.double v0), .second, .val (.double v1), .second, .val (.double v2), .second, .val (.double jk), .second, .val (.ref sv), .val (.ref c1), .val (.ref c2)] [(.double v0), (.int p2), (.int p1), (.int p0), (.int k), (.int (15 : Int32)), (.ref c1)])) _
    refine XS.dload X340.here hx rfl (hb hby at_763) rfl ?_
    show Steps p.tables e below (T340.setTop (mkF m 765 #[.val (.int q1), .val (.int q2), .val (.int q3), .val (.int q4), .val (.int q5), .val (.int k), .val (.int av), .val (.int p0), .val (.int p1), .val (.int p2), .val (.int xt), .val (.int lst), .val (.int dm), .val (.double v0), .second, .val (.double v1), .second, .val (.double v2), .second, .val (.double jk), .second, .val (.ref sv), .val (.ref c1), .val (.ref c2)] [(.double v1), (.double v0), (.int p2), (.int p1), (.int p0), (.int k), (.int (15 : Int32)), (.ref c1)])) _
    refine XS.dload X340.here hx rfl (hb hby at_765) rfl ?_
    exact Steps.refl _
  obtain ⟨_, _, ⟨T343, L343, k343, n343⟩, -, X343, ⟨Lc343, hQ343, l343, y343, z343⟩, st343⟩ := Jvm.LawKit.callS X340 hx (y := (⟨"com/example/polytome/polytome/model/SparseVectorToArrayPinLaw", "ok", "([DIIIIIDDD)Z"⟩ : MethodName)) hown (mvT hZ (hw _ (List.mem_of_getElem? (i := 44) rfl))) (mvT hZ (hw _ (List.mem_of_getElem? (i := 45) rfl))) (mvT hZ (hw _ (List.mem_of_getElem? (i := 46) rfl))) (mvT hZ (hw _ (List.mem_of_getElem? (i := 47) rfl))) (by decide) (backOf (W := 0) (rmK l Z a0 hw [] c1 (15 : Int32) k p0 p1 p2 v0 v1 v2 dm (own_c k p0 p1 p2 v0 v1 v2) hM n0 ZM GM bdm.1 (by decide) (fun _ => hce _ (by decide)) (hnn _)) hZ (hw _ (List.mem_of_getElem? (i := 47) rfl)) (hw _ (List.mem_of_getElem? (i := 46) rfl)) (by decide) (by decide)) (g := (mkF m 767 #[.val (.int q1), .val (.int q2), .val (.int q3), .val (.int q4), .val (.int q5), .val (.int k), .val (.int av), .val (.int p0), .val (.int p1), .val (.int p2), .val (.int xt), .val (.int lst), .val (.int dm), .val (.double v0), .second, .val (.double v1), .second, .val (.double v2), .second, .val (.double jk), .second, .val (.ref sv), .val (.ref c1), .val (.ref c2)] [(.double v2), (.double v1), (.double v0), (.int p2), (.int p1), (.int p0), (.int k), (.int (15 : Int32)), (.ref c1)])) rfl (by rw [hml]; rfl) (argsL := [(.ref c1), (.int (15 : Int32)), (.int k), (.int p0), (.int p1), (.int p2), (.double v0), (.double v1), (.double v2)]) (rest := []) (lenOf pd_5 rfl) rfl (by show 2 * 0 + _ ≤ _; exact Nat.le_of_eq rfl) (hb hby at_767) (fun _ _ => ⟨rfl, e340, (by decide : (((((((((((((((7 + 0) + 0) + 0) + 0) + 0) + 0) + 0) + 0) + 0) + 0) + 0) + 0) + 0) + 0) + 0) + 0 ≤ _), (by decide : (((((((((((((((50 + 0) + 0) + 0) + 0) + 0) + 0) + 0) + 0) + 0) + 0) + 0) + 0) + 0) + 0) + 0) + 0 ≤ _)⟩)
  dsimp only [Pt.U, Pt.locs, Pt.cells, Pt.slots] at X343 l343 y343 z343 st343 hQ343
  subst l343 y343 z343
  obtain ⟨rfl, Nq343, e343⟩ := hQ343
  have N343 := Fr.app N340 Nq343
  have r344 : Steps p.tables e below S0 (T343.setTop (mkF m 770 #[.val (.int q1), .val (.int q2), .val (.int q3), .val (.int q4), .val (.int q5), .val (.int k), .val (.int av), .val (.int p0), .val (.int p1), .val (.int p2), .val (.int xt), .val (.int lst), .val (.int dm), .val (.double v0), .second, .val (.double v1), .second, .val (.double v2), .second, .val (.double jk), .second, .val (.ref sv), .val (.ref c1), .val (.ref c2)] [(.int (1 : Int32))])) := r342.trans (st343 _ (Steps.refl _))
  have r345 : Steps p.tables e below S0 (T343.setTop (mkF m 778 #[.val (.int q1), .val (.int q2), .val (.int q3), .val (.int q4), .val (.int q5), .val (.int k), .val (.int av), .val (.int p0), .val (.int p1), .val (.int p2), .val (.int xt), .val (.int lst), .val (.int dm), .val (.double v0), .second, .val (.double v1), .second, .val (.double v2), .second, .val (.double jk), .second, .val (.ref sv), .val (.ref c1), .val (.ref c2)] [(.int (1 : Int32))])) := by
    refine r344.trans ?_
    show Steps p.tables e below (T343.setTop (mkF m 770 #[.val (.int q1), .val (.int q2), .val (.int q3), .val (.int q4), .val (.int q5), .val (.int k), .val (.int av), .val (.int p0), .val (.int p1), .val (.int p2), .val (.int xt), .val (.int lst), .val (.int dm), .val (.double v0), .second, .val (.double v1), .second, .val (.double v2), .second, .val (.double jk), .second, .val (.ref sv), .val (.ref c1), .val (.ref c2)] [(.int (1 : Int32))])) _
    refine XS.ifNo X343.here hx rfl (hb hby at_770) rfl ((if0 _ _).trans (feq (by decide)).1) ?_
    show Steps p.tables e below (T343.setTop (mkF m 773 #[.val (.int q1), .val (.int q2), .val (.int q3), .val (.int q4), .val (.int q5), .val (.int k), .val (.int av), .val (.int p0), .val (.int p1), .val (.int p2), .val (.int xt), .val (.int lst), .val (.int dm), .val (.double v0), .second, .val (.double v1), .second, .val (.double v2), .second, .val (.double jk), .second, .val (.ref sv), .val (.ref c1), .val (.ref c2)] [])) _
    refine XS.iconst X343.here hx rfl (hb hby at_773) ?_
    show Steps p.tables e below (T343.setTop (mkF m 774 #[.val (.int q1), .val (.int q2), .val (.int q3), .val (.int q4), .val (.int q5), .val (.int k), .val (.int av), .val (.int p0), .val (.int p1), .val (.int p2), .val (.int xt), .val (.int lst), .val (.int dm), .val (.double v0), .second, .val (.double v1), .second, .val (.double v2), .second, .val (.double jk), .second, .val (.ref sv), .val (.ref c1), .val (.ref c2)] [(.int (1 : Int32))])) _
    refine XS.goto X343.here hx rfl (pc0 := 774) (pc' := 778) rfl (hb hby at_774) (by decide) (by decide) ?_
    exact Steps.refl _
  obtain ⟨fs, hr, hrun, hended, hW, hsame⟩ := X343.leave (v := some (.int (1 : Int32))) (fun h => by rw [Bd.returns] at h; cases h)
  refine ⟨_, _, pre0 _ ?_, hrun, hended, _, _, rfl, ?_, ⟨_, rfl⟩, hW, hsame.mono (by decide) (by decide)⟩
  · rw [← hS0]
    refine r345.trans ?_
    show Steps p.tables e below (T343.setTop (mkF m 778 #[.val (.int q1), .val (.int q2), .val (.int q3), .val (.int q4), .val (.int q5), .val (.int k), .val (.int av), .val (.int p0), .val (.int p1), .val (.int p2), .val (.int xt), .val (.int lst), .val (.int dm), .val (.double v0), .second, .val (.double v1), .second, .val (.double v2), .second, .val (.double jk), .second, .val (.ref sv), .val (.ref c1), .val (.ref c2)] [(.int (1 : Int32))])) _
    exact retB X343 hx Bd.returns (by first | exact Or.inr rfl | exact Or.inl rfl | (split <;> simp)) (hb hby at_778) hr
  · exact ⟨rfl, N343⟩
set_option maxRecDepth 65536 in
set_option maxHeartbeats 40000000 in
theorem comes_1 {Post : Tables → Env → Array Value → State → Outcome → State → Prop} (hpost : ∀ tb e args s v u, (limb_1_1.after args s (.returned v) u = true ∧ limb_1_2.after args s (.returned v) u = true ∧ True) → FrameEnd s (.returned v) u (Jvm.fieldLocs frame_1_writes args s ++ Jvm.arrayLocs frame_1_arrays args s ++ Jvm.staticLocs frame_1_statics s) 24 192 → Post tb e args s (.returned v) u) :
    ArmFor flags0 classFile x code maxLocals ret World_1 tables_1 room_1 Calls_1 rest_1 Pre_1 Post := by
  intro l hfl _ _ p e ha hc hk s m args below hf hA hF happ hP
  obtain ⟨hcalls, hrest, hpre⟩ := hP
  obtain ⟨-, -, -, hnamed, -, -, -, hat⟩ := (Spec.applies_iff hf).mp happ
  obtain ⟨hg, hn⟩ := and_e (Cond.before_iff.mp (show (Jvm.Cond.and given_1 narrow_1).before args s = true from hpre))
  obtain ⟨g0, hg⟩ := and_e hg
  obtain ⟨ga0, hg⟩ := and_e hg
  obtain ⟨ga1, hg⟩ := and_e hg
  obtain ⟨ga2, hg⟩ := and_e hg
  obtain ⟨ga3, hg⟩ := and_e hg
  have ga4 := hg
  obtain ⟨w0, w1, w2, w3, w4, rfl⟩ : ∃ w0 w1 w2 w3 w4 : Value, args = #[w0, w1, w2, w3, w4] := by
    have hs : args.size = 5 := by simpa [Cond.value, given_1] using g0
    obtain ⟨L⟩ := args
    match L, hs with
    | [w0, w1, w2, w3, w4], _ => exact ⟨w0, w1, w2, w3, w4, rfl⟩
  have hw := fun d (hd : d ∈ tables_1) => atoms_spec (ws := Jvm.Cond.code x code maxLocals ret :: tables_1) hat d (List.mem_cons_of_mem _ hd)
  have hfit : Fit s := fun {y c} hc i hi => by
    obtain ⟨ha, rfl⟩ := Array.getElem?_eq_some_iff.mp hc
    have q := List.all_eq_true.mp ((Array.all_eq_true_iff_forall_mem.mp hF) _ (Array.getElem_mem ha)) i (List.mem_range.mpr hi)
    simpa [Array.getElem?_eq_getElem hi] using q
  obtain ⟨i0, ei0⟩ := is_v ga0
  obtain rfl : w0 = (.int i0) := Option.some.inj ei0
  obtain ⟨i1, ei1⟩ := is_v ga1
  obtain rfl : w1 = (.int i1) := Option.some.inj ei1
  obtain ⟨i2, ei2⟩ := is_v ga2
  obtain rfl : w2 = (.int i2) := Option.some.inj ei2
  obtain ⟨i3, ei3⟩ := is_v ga3
  obtain rfl : w3 = (.int i3) := Option.some.inj ei3
  obtain ⟨i4, ei4⟩ := is_v ga4
  obtain rfl : w4 = (.int i4) := Option.some.inj ei4
  obtain ⟨n, o, h1, h2, h3, _, L, rfl, ⟨rfl, N⟩, hq⟩ := rm0 l s _ hw tables_1 i0 i1 i2 i3 i4 s.heap s.heap.size (Nat.le_refl _)  p e ha hc hk s m _ below hf ((Spec.applies_iff_loose hf).mp happ).1 ⟨rfl, State.Warmed39.refl s, rfl⟩ trivial
  refine ⟨n, _, h1, h2, h3, hpost _ _ _ _ _ _ ⟨Cond.after_iff.mpr rfl, Cond.after_iff.mpr (eq_i res_at (Term.int_eval (1)) rfl), trivial⟩ ⟨hq.1, hq.2.1, (hq.2.2.sift fun y hy => Or.inr (N y hy)).mono (by decide) (by decide)⟩⟩
theorem main_1_1 : Claimed_1_1 := comes_1 fun _ _ _ _ _ _ h hF => ⟨h.1, hF⟩
theorem main_1_2 : Claimed_1_2 := comes_1 fun _ _ _ _ _ _ h hF => ⟨h.2.1, hF⟩
end Jvm.Pilot.@@N@@
namespace Jvm.Pilot.@@N@@
open Jvm Jvm.ClassFile Sem Op Lib Jvm.Free Jvm.Stand Jvm.Pilot.@@N@@.Jvm.D
/-! MADE BY PROGRAM (witnessworld.py) out of the Statement's table words and the real class files: 11 classes; the members and pool entries that the words name. The judged class is class 1, her method 1. -/
namespace start1
open Jvm.ClassFile
def u (s : String) : CpInfo := .utf8 (stringToUtf16 s)
/-- a pool by its gaps: so many unusable entries, then the entry; so many at the end -/
def gap : Nat → List CpInfo → List CpInfo
  | 0, r => r
  | n + 1, r => .unusable :: gap n r
def poolList (es : List (Nat × CpInfo)) (last : Nat) : List CpInfo := es.foldr (fun e r => gap e.1 (e.2 :: r)) (gap last [])
def pool (es : List (Nat × CpInfo)) (last : Nat) : Array CpInfo := ⟨poolList es last⟩
def fileOf (pool : Array CpInfo) (this : Nat) (attrs : Array Attribute := #[]) (ms : Array MethodInfo := #[]) (fl : Nat := 33) (sup : Nat := 0) (ifs : Array Nat := #[]) (fds : Array FieldInfo := #[]) : ClassFile where
  minorVersion := 0
  majorVersion := 65
  constantPool := pool
  accessFlags := fl
  thisClass := this
  superClass := sup
  interfaces := ifs
  fields := fds
  methods := ms
  attributes := attrs
def plain (name : String) (sup : Option ClassId) : Class where
  name := name
  kind := .ordinary
  loader := none
  accessFlags := 33
  super := sup
  interfaces := #[]
  cf := none
  fields := #[]
  methods := #[]
  instanceTypes := #[]
  staticTypes := #[]
  resolved := #[]
  callSites := []
  init := .initialized
  statics := none
  mirror := none

def pool0 : Array CpInfo := pool [(5, u "<init>"), (0, u "()V"), (1, .class_ 10), (1, u "java/lang/Object"), (85, u "clone"), (0, u "()Ljava/lang/Object;")] 26

def k0c0 : Code := { maxStack := 0, maxLocals := 1, code := object_method_1_code, exceptionTable := #[], attributes := #[] }
def k0m0 : Method := { name := "<init>", desc := "()V", sig := { parameters := [], returnType := none }, accessFlags := 1, code := some k0c0 }
def k0m1 : Method := { name := "clone", desc := "()Ljava/lang/Object;", sig := { parameters := [], returnType := some (.object "java/lang/Object") }, accessFlags := 260, code := none }
/-- java/lang/Object -/
def k0 : Class := { plain "java/lang/Object" none with
  accessFlags := 33
  interfaces := #[]
  cf := some (fileOf pool0 8 #[] #[{ accessFlags := 1, nameIndex := 5, descriptorIndex := 6, attributes := #[] }, { accessFlags := 260, nameIndex := 96, descriptorIndex := 97, attributes := #[] }] 33 0 #[] #[])
  fields := #[]
  methods := #[k0m0, k0m1]
  instanceTypes := #[]
  staticTypes := #[]
  resolved := Array.replicate 124 none
  statics := none }

def pool1 : Array CpInfo := pool [(2, .class_ 4), (1, u "java/lang/Object"), (0, u "<init>"), (0, u "()V"), (0, .methodref 8 9), (0, .class_ 10), (0, .nameAndType 11 12), (0, u "com/example/polytome/polytome/model/SparseVector"), (0, u "view"), (0, u "(I[I[DII)Lcom/example/polytome/polytome/model/SparseVector;"), (0, .methodref 8 14), (0, .nameAndType 5 15), (0, u "(I[I[D)V"), (0, .methodref 8 17), (0, .nameAndType 18 19), (0, u "toArray"), (0, u "()[D"), (0, .methodref 21 22), (0, .class_ 23), (0, .nameAndType 24 25), (0, u "com/example/polytome/polytome/model/SparseVectorToArrayPinLaw"), (0, u "ok"), (0, u "([DIIIIIDDD)Z"), (0, .methodref 21 27), (0, .nameAndType 28 29), (0, u "expected"), (0, u "(IIIIIDDD)D"), (2, u "law"), (0, u "(IIIII)Z")] 5

def k1m0 : Method := { name := "<init>", desc := "()V", sig := { parameters := [], returnType := none }, accessFlags := 1, code := none }
def k1c1 : Code := { maxStack := 12, maxLocals := 24, code := code, exceptionTable := #[], attributes := #[] }
def k1m1 : Method := { name := "law", desc := "(IIIII)Z", sig := { parameters := [.int, .int, .int, .int, .int], returnType := some .boolean }, accessFlags := 9, code := some k1c1 }
def k1c2 : Code := { maxStack := 2, maxLocals := 11, code := method_3_code, exceptionTable := #[], attributes := #[] }
def k1m2 : Method := { name := "expected", desc := "(IIIIIDDD)D", sig := { parameters := [.int, .int, .int, .int, .int, .double, .double, .double], returnType := some .double }, accessFlags := 10, code := some k1c2 }
def k1c3 : Code := { maxStack := 13, maxLocals := 12, code := method_4_code, exceptionTable := #[], attributes := #[] }
def k1m3 : Method := { name := "ok", desc := "([DIIIIIDDD)Z", sig := { parameters := [(.array .double), .int, .int, .int, .int, .int, .double, .double, .double], returnType := some .boolean }, accessFlags := 10, code := some k1c3 }
/-- com/example/polytome/polytome/model/SparseVectorToArrayPinLaw -/
def k1 : Class := { plain "com/example/polytome/polytome/model/SparseVectorToArrayPinLaw" (some 0) with
  accessFlags := 49
  interfaces := #[]
  cf := some (fileOf pool1 21 #[] #[{ accessFlags := 1, nameIndex := 5, descriptorIndex := 6, attributes := #[] }, { accessFlags := 9, nameIndex := 32, descriptorIndex := 33, attributes := #[] }, { accessFlags := 10, nameIndex := 28, descriptorIndex := 29, attributes := #[] }, { accessFlags := 10, nameIndex := 24, descriptorIndex := 25, attributes := #[] }] 49 2 #[] #[])
  fields := #[]
  methods := #[k1m0, k1m1, k1m2, k1m3]
  instanceTypes := #[]
  staticTypes := #[]
  resolved := Array.replicate 39 none
  statics := none }

def pool2 : Array CpInfo := pool [(1, .methodref 2 3), (0, .class_ 4), (0, .nameAndType 5 6), (0, u "java/lang/Object"), (0, u "<init>"), (0, u "()V"), (0, .fieldref 8 9), (0, .class_ 10), (0, .nameAndType 11 12), (0, u "com/example/polytome/polytome/model/SparseVector"), (0, u "dimension"), (0, u "I"), (0, .fieldref 8 14), (0, .nameAndType 15 16), (0, u "positions"), (0, u "[I"), (0, .fieldref 8 18), (0, .nameAndType 19 20), (0, u "values"), (0, u "[D"), (0, .fieldref 8 22), (0, .nameAndType 23 12), (0, u "from"), (0, .fieldref 8 25), (0, .nameAndType 26 12), (0, u "to"), (0, .methodref 28 29), (0, .class_ 16), (0, .nameAndType 30 31), (0, u "clone"), (0, u "()Ljava/lang/Object;"), (0, .methodref 33 29), (0, .class_ 20), (0, .methodref 8 35), (0, .nameAndType 5 36), (0, u "(I[I[DII)V"), (30, u "(I[I[D)V"), (3, u "view"), (0, u "(I[I[DII)Lcom/example/polytome/polytome/model/SparseVector;"), (7, u "toArray"), (0, u "()[D")] 19

def k2c0 : Code := { maxStack := 2, maxLocals := 6, code := prog_39_method_1_code, exceptionTable := #[], attributes := #[] }
def k2m0 : Method := { name := "<init>", desc := "(I[I[DII)V", sig := { parameters := [.int, (.array .int), (.array .double), .int, .int], returnType := none }, accessFlags := 2, code := some k2c0 }
def k2c1 : Code := { maxStack := 6, maxLocals := 5, code := prog_39_method_2_code, exceptionTable := #[], attributes := #[] }
def k2m1 : Method := { name := "<init>", desc := "(I[I[D)V", sig := { parameters := [.int, (.array .int), (.array .double)], returnType := none }, accessFlags := 1, code := some k2c1 }
def k2c2 : Code := { maxStack := 7, maxLocals := 5, code := prog_39_method_4_code, exceptionTable := #[], attributes := #[] }
def k2m2 : Method := { name := "view", desc := "(I[I[DII)Lcom/example/polytome/polytome/model/SparseVector;", sig := { parameters := [.int, (.array .int), (.array .double), .int, .int], returnType := some (.object "com/example/polytome/polytome/model/SparseVector") }, accessFlags := 8, code := some k2c2 }
def k2c3 : Code := { maxStack := 4, maxLocals := 3, code := prog_39_method_10_code, exceptionTable := #[], attributes := #[] }
def k2m3 : Method := { name := "toArray", desc := "()[D", sig := { parameters := [], returnType := some (.array .double) }, accessFlags := 1, code := some k2c3 }
/-- com/example/polytome/polytome/model/SparseVector -/
def k2 : Class := { plain "com/example/polytome/polytome/model/SparseVector" (some 0) with
  accessFlags := 49
  interfaces := #[]
  cf := some (fileOf pool2 8 #[] #[{ accessFlags := 2, nameIndex := 5, descriptorIndex := 36, attributes := #[] }, { accessFlags := 1, nameIndex := 5, descriptorIndex := 67, attributes := #[] }, { accessFlags := 8, nameIndex := 71, descriptorIndex := 72, attributes := #[] }, { accessFlags := 1, nameIndex := 80, descriptorIndex := 81, attributes := #[] }] 49 2 #[] #[{ accessFlags := 18, nameIndex := 11, descriptorIndex := 12, attributes := #[] }, { accessFlags := 18, nameIndex := 15, descriptorIndex := 16, attributes := #[] }, { accessFlags := 18, nameIndex := 19, descriptorIndex := 20, attributes := #[] }, { accessFlags := 18, nameIndex := 23, descriptorIndex := 12, attributes := #[] }, { accessFlags := 18, nameIndex := 26, descriptorIndex := 12, attributes := #[] }])
  fields := #[{ name := "dimension", type := .int, accessFlags := 18, slot := 0, constantValue := 0 }, { name := "positions", type := (.array .int), accessFlags := 18, slot := 1, constantValue := 0 }, { name := "values", type := (.array .double), accessFlags := 18, slot := 2, constantValue := 0 }, { name := "from", type := .int, accessFlags := 18, slot := 3, constantValue := 0 }, { name := "to", type := .int, accessFlags := 18, slot := 4, constantValue := 0 }]
  methods := #[k2m0, k2m1, k2m2, k2m3]
  instanceTypes := #[.int, (.array .int), (.array .double), .int, .int]
  staticTypes := #[]
  resolved := Array.replicate 101 none
  statics := none }

def pool3 : Array CpInfo := pool [(1, .class_ 2), (0, u "java/lang/Cloneable"), (0, .class_ 4), (0, u "java/lang/Object")] 2

/-- java/lang/Cloneable -/
def k3 : Class := { plain "java/lang/Cloneable" (some 0) with
  accessFlags := 1537
  interfaces := #[]
  cf := some (fileOf pool3 1 #[] #[] 1537 3 #[] #[])
  fields := #[]
  methods := #[]
  instanceTypes := #[]
  staticTypes := #[]
  resolved := Array.replicate 7 none
  statics := none }

def pool4 : Array CpInfo := pool [(1, u "java/io/Serializable"), (0, .class_ 1), (0, u "java/lang/Object"), (0, .class_ 3)] 3

/-- java/io/Serializable -/
def k4 : Class := { plain "java/io/Serializable" (some 0) with
  accessFlags := 1537
  interfaces := #[]
  cf := some (fileOf pool4 2 #[] #[] 1537 4 #[] #[])
  fields := #[]
  methods := #[]
  instanceTypes := #[]
  staticTypes := #[]
  resolved := Array.replicate 8 none
  statics := none }

/-- the primitive byte -/
def k5 : Class := { plain "byte" none with kind := .primitive 'B', accessFlags := 0x411 }
/-- [B -/
def k6 : Class := { plain "[B" (some 0) with kind := .array 5 .byte, interfaces := #[3, 4], accessFlags := 1041 }

/-- the primitive double -/
def k7 : Class := { plain "double" none with kind := .primitive 'D', accessFlags := 0x411 }
/-- [D -/
def k8 : Class := { plain "[D" (some 0) with kind := .array 7 .double, interfaces := #[3, 4], accessFlags := 1041 }

/-- the primitive int -/
def k9 : Class := { plain "int" none with kind := .primitive 'I', accessFlags := 0x411 }
/-- [I -/
def k10 : Class := { plain "[I" (some 0) with kind := .array 9 .int, interfaces := #[3, 4], accessFlags := 1041 }

def heap : Heap := #[]
def classes : Array Class := #[k0, k1, k2, k3, k4, k5, k6, k7, k8, k9, k10]
def interned : List (Array UInt16 × Addr) := []
def slotsUsed : Nat := 0
def theMethod : MethodId := ⟨1, 1⟩
def args0 : Array Value := #[.int 5, .int 5, .int 5, .int 5, .int 5]
def aboutOver (below : List Frame) : State where
  vm := { classes := classes, interned := interned.toArray }
  heap := heap
  slotsUsed := slotsUsed
  threads := #[{ frames := .invoking theMethod args0 :: below }]
def below0 : List Frame := [.native { method := ⟨0, 0⟩, args := #[] }]
def about1 : State := aboutOver below0
def p0 : Program := .bare "" "" ""
def e0 : Env := launch0.env 0 0 0
theorem w_frames : about1.frames = Frame.invoking theMethod args0 :: below0 := rfl
set_option maxRecDepth 65536 in
theorem w_args : argsFit about1.vm theMethod args0 = true := by decide +kernel
set_option maxRecDepth 65536 in
theorem w_heap : heapFits about1 = true := by decide +kernel
set_option maxRecDepth 65536 in
theorem w_runnable : about1.curStatus? = some .runnable := by decide +kernel
set_option maxRecDepth 65536 in
theorem w_alone : about1.alone = true := by decide +kernel
set_option maxRecDepth 65536 in
theorem w_named : about1.methodNamed? x = some theMethod := by decide +kernel
set_option maxRecDepth 65536 in
theorem w_hears : about1.hears theMethod below0 = true := by decide +kernel
set_option maxRecDepth 65536 in
theorem w_ripe : about1.ripe theMethod args0 below0 = true := by decide +kernel
theorem w_running : about1.status = .running := rfl
set_option maxRecDepth 65536 in
theorem w_room : about1.hasRoom e0.platform room_1 = true :=
  launch0.hasRoom_least _ room_1 (by decide +kernel) (by decide +kernel) (by decide +kernel) (by decide +kernel) (by decide +kernel) (by decide +kernel)
theorem allAtoms_all (ts : List Jvm.Cond) (a : Array Jvm.Value) (st : Jvm.State) : (allAtoms ts).before a st = ts.all (fun c => c.before a st) := by
  induction ts with
  | nil => rfl
  | cons c t ih =>
    show (Jvm.Cond.and c (allAtoms t)).before a st = _
    rw [Jvm.Cond.before_and, ih, List.all_cons]
def words1 : List Jvm.Cond := Jvm.Cond.code x code maxLocals ret :: tables_1
/-- a 'code' word, met by the world's own term for the bytes: nothing is compared byte by byte -/
theorem code_word {y : MethodName} {bytes : ByteArray} {mx : Nat} {rt : Option FieldType} {a : Array Value} {s : State} {m : MethodId} {meth : Method} {c : Code} (h1 : s.methodNamed? y = some m) (h2 : s.vm.method? m = some meth) (h3 : meth.code = some c) (h4 : c.code = bytes)
    (h5 : (c.maxLocals == mx && c.exceptionTable.isEmpty && decide (c.maxStack ≤ mostOperands) && decide (meth.sig.returnType = rt) && !meth.locks && decide (parseMethodDescriptor y.desc = some meth.sig)) = true) : (Jvm.Cond.code y bytes mx rt).before a s = true := by
  simp only [Bool.and_eq_true, beq_iff_eq, Bool.not_eq_true', decide_eq_true_eq] at h5
  obtain ⟨⟨⟨⟨⟨g1, g2⟩, g3⟩, g4⟩, g5⟩, g6⟩ := h5
  simp [Cond.before, Cond.holds, Cond.value, h1, h2, h3, h4, g1, g2, g3, g4, g5, g6]
def isCode : Jvm.Cond → Bool
  | .code _ _ _ _ => true
  | _ => false
theorem all_split {L : List Jvm.Cond} {P : Jvm.Cond → Bool} (h1 : L.all (fun c => isCode c || P c) = true) (h2 : ∀ c ∈ L.filter isCode, P c = true) : L.all P = true := by
  refine List.all_eq_true.mpr fun c hc => ?_
  have h := List.all_eq_true.mp h1 c hc
  rcases Bool.eq_false_or_eq_true (isCode c) with hi | hi
  · exact h2 c (List.mem_filter.mpr ⟨hc, hi⟩)
  · simpa [hi] using h
set_option maxRecDepth 65536 in
theorem w_c0 : (Jvm.Cond.code x code maxLocals ret).before args0 about1 = true := code_word (m := ⟨1, 1⟩) (meth := k1m1) (c := k1c1) (by decide +kernel) rfl rfl rfl (by decide +kernel)
set_option maxRecDepth 65536 in
theorem w_c1 : (Jvm.Cond.code ({ cls := "com/example/polytome/polytome/model/SparseVector", name := "<init>", desc := "(I[I[D)V" } : Jvm.MethodName) prog_39_method_2_code (5 : Nat) (Option.none : Option Jvm.ClassFile.FieldType)).before args0 about1 = true := code_word (m := ⟨2, 1⟩) (meth := k2m1) (c := k2c1) (by decide +kernel) rfl rfl rfl (by decide +kernel)
set_option maxRecDepth 65536 in
theorem w_c2 : (Jvm.Cond.code ({ cls := "com/example/polytome/polytome/model/SparseVector", name := "<init>", desc := "(I[I[DII)V" } : Jvm.MethodName) prog_39_method_1_code (6 : Nat) (Option.none : Option Jvm.ClassFile.FieldType)).before args0 about1 = true := code_word (m := ⟨2, 0⟩) (meth := k2m0) (c := k2c0) (by decide +kernel) rfl rfl rfl (by decide +kernel)
set_option maxRecDepth 65536 in
theorem w_c3 : (Jvm.Cond.code ({ cls := "java/lang/Object", name := "<init>", desc := "()V" } : Jvm.MethodName) object_method_1_code (1 : Nat) (Option.none : Option Jvm.ClassFile.FieldType)).before args0 about1 = true := code_word (m := ⟨0, 0⟩) (meth := k0m0) (c := k0c0) (by decide +kernel) rfl rfl rfl (by decide +kernel)
set_option maxRecDepth 65536 in
theorem w_c4 : (Jvm.Cond.code ({ cls := "com/example/polytome/polytome/model/SparseVector", name := "toArray", desc := "()[D" } : Jvm.MethodName) prog_39_method_10_code (3 : Nat) (Option.some (Jvm.ClassFile.FieldType.array Jvm.ClassFile.FieldType.double))).before args0 about1 = true := code_word (m := ⟨2, 3⟩) (meth := k2m3) (c := k2c3) (by decide +kernel) rfl rfl rfl (by decide +kernel)
set_option maxRecDepth 65536 in
theorem w_c5 : (Jvm.Cond.code ({ cls := "com/example/polytome/polytome/model/SparseVectorToArrayPinLaw", name := "ok", desc := "([DIIIIIDDD)Z" } : Jvm.MethodName) method_4_code (12 : Nat) (Option.some Jvm.ClassFile.FieldType.boolean)).before args0 about1 = true := code_word (m := ⟨1, 3⟩) (meth := k1m3) (c := k1c3) (by decide +kernel) rfl rfl rfl (by decide +kernel)
set_option maxRecDepth 65536 in
theorem w_c6 : (Jvm.Cond.code ({ cls := "com/example/polytome/polytome/model/SparseVectorToArrayPinLaw", name := "expected", desc := "(IIIIIDDD)D" } : Jvm.MethodName) method_3_code (11 : Nat) (Option.some Jvm.ClassFile.FieldType.double)).before args0 about1 = true := code_word (m := ⟨1, 2⟩) (meth := k1m2) (c := k1c2) (by decide +kernel) rfl rfl rfl (by decide +kernel)
set_option maxRecDepth 65536 in
theorem w_c7 : (Jvm.Cond.code ({ cls := "com/example/polytome/polytome/model/SparseVector", name := "view", desc := "(I[I[DII)Lcom/example/polytome/polytome/model/SparseVector;" } : Jvm.MethodName) prog_39_method_4_code (5 : Nat) (Option.some (Jvm.ClassFile.FieldType.object "com/example/polytome/polytome/model/SparseVector"))).before args0 about1 = true := code_word (m := ⟨2, 2⟩) (meth := k2m2) (c := k2c2) (by decide +kernel) rfl rfl rfl (by decide +kernel)
def codes1 : List Jvm.Cond := [Jvm.Cond.code x code maxLocals ret, Jvm.Cond.code ({ cls := "com/example/polytome/polytome/model/SparseVector", name := "<init>", desc := "(I[I[D)V" } : Jvm.MethodName) prog_39_method_2_code (5 : Nat) (Option.none : Option Jvm.ClassFile.FieldType), Jvm.Cond.code ({ cls := "com/example/polytome/polytome/model/SparseVector", name := "<init>", desc := "(I[I[DII)V" } : Jvm.MethodName) prog_39_method_1_code (6 : Nat) (Option.none : Option Jvm.ClassFile.FieldType), Jvm.Cond.code ({ cls := "java/lang/Object", name := "<init>", desc := "()V" } : Jvm.MethodName) object_method_1_code (1 : Nat) (Option.none : Option Jvm.ClassFile.FieldType), Jvm.Cond.code ({ cls := "com/example/polytome/polytome/model/SparseVector", name := "toArray", desc := "()[D" } : Jvm.MethodName) prog_39_method_10_code (3 : Nat) (Option.some (Jvm.ClassFile.FieldType.array Jvm.ClassFile.FieldType.double)), Jvm.Cond.code ({ cls := "com/example/polytome/polytome/model/SparseVectorToArrayPinLaw", name := "ok", desc := "([DIIIIIDDD)Z" } : Jvm.MethodName) method_4_code (12 : Nat) (Option.some Jvm.ClassFile.FieldType.boolean), Jvm.Cond.code ({ cls := "com/example/polytome/polytome/model/SparseVectorToArrayPinLaw", name := "expected", desc := "(IIIIIDDD)D" } : Jvm.MethodName) method_3_code (11 : Nat) (Option.some Jvm.ClassFile.FieldType.double), Jvm.Cond.code ({ cls := "com/example/polytome/polytome/model/SparseVector", name := "view", desc := "(I[I[DII)Lcom/example/polytome/polytome/model/SparseVector;" } : Jvm.MethodName) prog_39_method_4_code (5 : Nat) (Option.some (Jvm.ClassFile.FieldType.object "com/example/polytome/polytome/model/SparseVector"))]
set_option maxRecDepth 65536 in
theorem codes_eq : words1.filter isCode = codes1 := rfl
theorem w_codes : ∀ c ∈ words1.filter isCode, c.before args0 about1 = true := by
  rw [codes_eq]
  intro c hc
  simp only [codes1, List.mem_cons, List.not_mem_nil, or_false] at hc
  rcases hc with rfl | rfl | rfl | rfl | rfl | rfl | rfl | rfl
  · exact w_c0
  · exact w_c1
  · exact w_c2
  · exact w_c3
  · exact w_c4
  · exact w_c5
  · exact w_c6
  · exact w_c7
set_option maxRecDepth 65536 in
theorem w_t1 : (words1.take 24).all (fun c => isCode c || c.before args0 about1) = true := by decide +kernel
set_option maxRecDepth 65536 in
theorem w_t2 : ((words1.drop 24).take 24).all (fun c => isCode c || c.before args0 about1) = true := by decide +kernel
set_option maxRecDepth 65536 in
theorem w_t3 : ((words1.drop 24).drop 24).all (fun c => isCode c || c.before args0 about1) = true := by decide +kernel
theorem w_tables : (allAtoms (Jvm.Cond.code x code maxLocals ret :: tables_1)).before args0 about1 = true := by
  rw [allAtoms_all]
  show words1.all (fun c => c.before args0 about1) = true
  refine all_split ?_ w_codes
  rw [← List.take_append_drop 24 words1, List.all_append, w_t1, ← List.take_append_drop 24 (words1.drop 24), List.all_append, w_t2, w_t3]
  rfl
set_option maxRecDepth 65536 in
theorem w_case : (Jvm.Cond.and given_1 narrow_1).before args0 about1 = true := by decide +kernel
theorem w_applies : (headSpec (Jvm.Cond.code x code maxLocals ret :: tables_1) room_1).applies x e0.platform about1 = true :=
  (Spec.applies_iff w_frames).mpr ⟨w_running, w_runnable, w_alone, w_named, w_hears, w_ripe, w_room, w_tables⟩
theorem atStart : AtStart classFile x code maxLocals ret World_1 tables_1 room_1 Calls_1 rest_1 Pre_1 launch0 p0 e0 about1 theMethod args0 below0 :=
  ⟨lists_1, trivial, launch0.admits_env _ _ _, launch0.least_env, fairChoices_fair.cas, fairChoices_fair.clock, w_frames, w_args, w_heap, w_applies, trivial, trivial, w_case⟩
end start1
theorem witness_1 : WitnessClaimed_1 := ⟨start1.p0, start1.e0, start1.about1, start1.theMethod, start1.args0, start1.below0, start1.atStart⟩
end Jvm.Pilot.@@N@@
