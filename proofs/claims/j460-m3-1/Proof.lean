import JvmDerived
import JvmDerived.Pilot.@@N@@Statement
import JvmDerived.Pilot.@@N@@Code
set_option linter.unusedVariables false
set_option linter.unusedSimpArgs false
namespace Jvm.Pilot.@@N@@
open Jvm Jvm.ClassFile Sem Op Lib Jvm.Free Jvm.Stand Jvm.LawKit Jvm.RoadKit Bundle Jvm.Pilot.@@N@@.Jvm.D
/-! ## The doubles of this law: own_enc n is n / 128 -/
section OwnFp
open Jvm.FP Jvm.FP.Core
def own_enc (n : Nat) : UInt64 := of64 (round b64 (.fin false n (-7)))
theorem own_enc_fin {n : Nat} (h : n < 2 ^ 53) : ∃ c q, val64 (own_enc n) = .fin false c q ∧ inUnits c q b64.qmin = n * 2 ^ 1067 := by
  obtain ⟨c, q, h1, h2⟩ := round_exact good_b64 false (c := n) (q := -7) h (by decide) (by decide)
  refine ⟨c, q, ?_, ?_⟩
  · unfold own_enc; rw [val64_of64 (round_fits good_b64 _)]; exact h1
  · rw [h2]; rfl
theorem own_enc_zval {n : Nat} (h : n < 2 ^ 53) : zval b64 (val64 (own_enc n)) = ((n * 2 ^ 1067 : Nat) : Int) := by
  obtain ⟨c, q, h1, h2⟩ := own_enc_fin h
  rw [h1]; show signed false (inUnits c q b64.qmin) = _
  rw [h2]; rfl
theorem own_enc_dfin {n : Nat} (h : n < 2 ^ 53) : DFin (own_enc n) := by
  obtain ⟨c, q, h1, -⟩ := own_enc_fin h
  exact ⟨_, _, _, h1⟩
theorem own_enc_ne {n : Nat} (h : n < 2 ^ 53) : val64 (own_enc n) ≠ .nan := (own_enc_dfin h).ne_nan
theorem own_enc_units (n : Nat) : round b64 (.fin false (n * 2 ^ 1067) b64.qmin) = round b64 (.fin false n (-7)) := by
  have := round_inUnits (f := b64) false n (q := -7) (e := b64.qmin) (by decide)
  rw [← this]; rfl
theorem own_sum_val {a b : UInt64} {s t : Bool} {c d : Nat} {q r : Int} {k : Nat} (ha : val64 a = .fin s c q) (hb : val64 b = .fin t d r) (hk : 0 < k) (h : zval b64 (val64 a) + zval b64 (val64 b) = ((k * 2 ^ 1067 : Nat) : Int)) :
    Core.dadd a b = own_enc k := by
  have fa := val64_fits a; have fb := val64_fits b
  rw [ha] at fa h; rw [hb] at fb h
  obtain ⟨sg, n, e, h1, h2, h3⟩ := sum_units fa fb
  rw [h] at h3
  have hp : 0 < k * 2 ^ 1067 := Nat.mul_pos hk (Nat.two_pow_pos _)
  have h4 : sg = false ∧ inUnits n e b64.qmin = k * 2 ^ 1067 := by
    generalize inUnits n e b64.qmin = N at h3 ⊢
    generalize k * 2 ^ 1067 = M at h3 hp ⊢
    cases sg
    · simp only [signed, Bool.false_eq_true, if_false] at h3
      exact ⟨rfl, Int.ofNat.inj h3⟩
    · simp only [signed, if_true] at h3
      omega
  obtain ⟨rfl, h4⟩ := h4
  have hv : val64 (Core.dadd a b) = round b64 (.fin false k (-7)) := by
    rw [val64_dadd, ha, hb, h1, ← round_inUnits false n h2, h4]; exact own_enc_units k
  have hv2 : val64 (own_enc k) = round b64 (.fin false k (-7)) := by unfold own_enc; rw [val64_of64 (round_fits good_b64 _)]
  refine (val64_inj ?_ (hv2.trans hv.symm)).symm
  rw [hv2]; intro q; exact Datum.noConfusion (round_nan.mp q)
theorem own_dadd {m n : Nat} (hm : m < 2 ^ 53) (hn : n < 2 ^ 53) : Core.dadd (own_enc m) (own_enc n) = own_enc (m + n) := by
  by_cases h0 : m + n = 0
  · have e1 : m = 0 := by omega
    have e2 : n = 0 := by omega
    subst e1 e2; decide +kernel
  · obtain ⟨c, q, h1, -⟩ := own_enc_fin hm
    obtain ⟨d, r, h2, -⟩ := own_enc_fin hn
    refine own_sum_val h1 h2 (by omega) ?_
    rw [own_enc_zval hm, own_enc_zval hn, Nat.add_mul]; rfl
theorem own_i2d {t : Nat} (h : t < 2 ^ 31) : Core.i2d (Int32.ofNat t) = own_enc (128 * t) := by
  have e1 : (Int32.ofNat t).toInt = (t : Int) := Int32.toInt_ofNat_of_lt h
  have hv : val64 (Core.i2d (Int32.ofNat t)) = round b64 (.fin false (128 * t) (-7)) := by
    rw [val64_i2d, e1]
    have e2 : ofInt (t : Int) = .fin false t 0 := by
      unfold ofInt
      have : decide ((t : Int) < 0) = false := decide_eq_false (by omega)
      rw [this]; rfl
    rw [e2, ← round_inUnits false t (q := 0) (e := -7) (by decide)]
    congr 2
    show t * 2 ^ 7 = _
    omega
  have hv2 : val64 (own_enc (128 * t)) = round b64 (.fin false (128 * t) (-7)) := by unfold own_enc; rw [val64_of64 (round_fits good_b64 _)]
  refine (val64_inj ?_ (hv2.trans hv.symm)).symm
  rw [hv2]; intro q; exact Datum.noConfusion (round_nan.mp q)
/-! ### floor (x + 1e-9) -/
def own_tol : UInt64 := 4472406533629990549
theorem own_tol_pos : 0 < zval b64 (val64 own_tol) := by decide +kernel
theorem own_tol_le : zval b64 (val64 own_tol) ≤ ((2 ^ 1067 : Nat) : Int) := by decide +kernel
theorem own_tol_fin : DFin own_tol := by rw [fin_bits]; decide
theorem own_near {n : Nat} (h : n + 1 < 2 ^ 53) : val64 (Core.dadd (own_enc n) own_tol) ≠ .nan ∧ 0 < zval b64 (val64 (Core.dadd (own_enc n) own_tol)) ∧ ((n * 2 ^ 1067 : Nat) : Int) ≤ zval b64 (val64 (Core.dadd (own_enc n) own_tol)) ∧ zval b64 (val64 (Core.dadd (own_enc n) own_tol)) ≤ (((n + 1) * 2 ^ 1067 : Nat) : Int) := by
  have hn : n < 2 ^ 53 := by omega
  have f1 := own_enc_dfin hn
  have z1 := own_enc_zval hn
  have z2 := own_enc_zval h
  have p1 := own_tol_pos
  have p2 := own_tol_le
  have hv : val64 (Core.dadd (own_enc n) own_tol) = round b64 (exactSum (val64 (own_enc n)) (val64 own_tol)) := val64_dadd _ _
  have hne : val64 (Core.dadd (own_enc n) own_tol) ≠ .nan := by
    rw [hv]; intro q
    have q := round_nan.mp q
    obtain ⟨s, c, x, e1⟩ := f1
    obtain ⟨t, d, y, e2⟩ := own_tol_fin
    rw [e1, e2] at q; exact Datum.noConfusion q
  refine ⟨hne, ?_, ?_, ?_⟩
  · have := sum_ge good_b64 f1 own_tol_fin (val64_fits _) (val64_fits _) (val64_fits own_tol) own_tol_fin.ne_nan (by rw [z1]; omega)
    rw [hv]; omega
  · have := sum_ge good_b64 f1 own_tol_fin (val64_fits _) (val64_fits own_tol) (val64_fits (own_enc n)) (own_enc_ne hn) (by omega)
    rw [hv, ← z1]; exact this
  · have := sum_le good_b64 f1 own_tol_fin (val64_fits _) (val64_fits own_tol) (val64_fits (own_enc (n + 1))) (own_enc_ne h) (by rw [z1, z2, Nat.add_mul, Nat.one_mul]; omega)
    rw [hv, ← z2]; exact this
end OwnFp
/-! ## floor on bits -/
section OwnFloor
open Jvm.FP Jvm.FP.Core Jvm.Free.Hsc Jvm.Free.Fl Jvm.Native.java_lang_Math.nans
theorem own_hi {x : Nat} (hx : x < 2 ^ 63) : x &&& 9218868437227405312 = x / 2 ^ 52 * 2 ^ 52 := by
  have h1 : (x &&& 9218868437227405312) / 2 ^ 52 = x / 2 ^ 52 := by
    rw [Nat.and_div_two_pow, show 9218868437227405312 / 2 ^ 52 = 2 ^ 11 - 1 from by decide, Nat.and_two_pow_sub_one_eq_mod]
    exact Nat.mod_eq_of_lt (by omega)
  have h2 : (x &&& 9218868437227405312) % 2 ^ 52 = 0 := by
    rw [Nat.and_mod_two_pow, show 9218868437227405312 % 2 ^ 52 = 0 from by decide, Nat.and_zero]
  have h3 := Nat.div_add_mod (x &&& 9218868437227405312) (2 ^ 52)
  omega
theorem own_cutN {x k : Nat} (hx : x < 2 ^ 64) (hk : k ≤ 64) : x &&& (2 ^ 64 - 2 ^ k) = x - x % 2 ^ k := by
  have e : 2 ^ 64 - 2 ^ k = (2 ^ (64 - k) - 1) * 2 ^ k := by
    rw [Nat.sub_mul, ← Nat.pow_add, Nat.sub_add_cancel hk, Nat.one_mul]
  have h1 : (x &&& (2 ^ 64 - 2 ^ k)) / 2 ^ k = x / 2 ^ k := by
    rw [Nat.and_div_two_pow, e, Nat.mul_div_cancel _ (Nat.two_pow_pos k), Nat.and_two_pow_sub_one_eq_mod]
    refine Nat.mod_eq_of_lt ((Nat.div_lt_iff_lt_mul (Nat.two_pow_pos k)).mpr ?_)
    rw [← Nat.pow_add, Nat.sub_add_cancel hk]; exact hx
  have h2 : (x &&& (2 ^ 64 - 2 ^ k)) % 2 ^ k = 0 := by
    rw [Nat.and_mod_two_pow, e, Nat.mul_mod_left, Nat.and_zero]
  have h3 := Nat.div_add_mod (x &&& (2 ^ 64 - 2 ^ k)) (2 ^ k)
  have h4 := Nat.div_add_mod x (2 ^ k)
  rw [h1, h2] at h3
  omega
theorem own_shr52 {E : Nat} (h : E < 2048) : (Int64.ofNat (E * 2 ^ 52)) >>> (52 &&& 63) = Int64.ofNat E := by
  refine Int64.toBitVec_inj.mp (BitVec.eq_of_toNat_eq ?_)
  show ((BitVec.ofNat 64 (E * 2 ^ 52)).sshiftRight' ((52 &&& 63 : Int64).toBitVec.smod 64)).toNat = E % 2 ^ 64
  rw [show (52 &&& 63 : Int64).toBitVec.smod 64 = 52#64 from by decide]
  show ((BitVec.ofNat 64 (E * 2 ^ 52)).sshiftRight 52).toNat = _
  have hm : (BitVec.ofNat 64 (E * 2 ^ 52)).msb = false := by
    rw [BitVec.msb_eq_false_iff_two_mul_lt, BitVec.toNat_ofNat]; omega
  rw [BitVec.sshiftRight_eq_of_msb_false hm, BitVec.toNat_ushiftRight, BitVec.toNat_ofNat, Nat.shiftRight_eq_div_pow]
  omega
theorem own_l2iN {E : Nat} (h : E < 2 ^ 31) : (Int64.ofNat E).toInt32 = Int32.ofNat E := by
  refine Int32.toInt_inj.mp ?_
  rw [Int64.toInt_toInt32, Int64.toInt_ofNat_of_lt (by omega), Int32.toInt_ofNat_of_lt h, Int.bmod_def]; omega
theorem own_hM : (9218868437227405312 : Int64).toBitVec.toNat = 9218868437227405312 := by decide
theorem own_hBits {b : UInt64} : b.toInt64.toBitVec.toNat = b.toNat := rfl
theorem own_hOf {k : Nat} : (Int64.ofNat k).toBitVec.toNat = k % 2 ^ 64 := rfl
theorem own_andM {b : UInt64} (hb : b.toNat < 2 ^ 63) : b.toInt64 &&& 9218868437227405312 = Int64.ofNat (b.toNat / 2 ^ 52 * 2 ^ 52) := by
  apply Int64.toBitVec_inj.mp
  apply BitVec.eq_of_toNat_eq
  rw [Int64.toBitVec_and, BitVec.toNat_and, own_hM, own_hBits, own_hOf, own_hi hb]
  generalize b.toNat = n at *
  exact (Nat.mod_eq_of_lt (by omega)).symm
theorem own_exp {b : UInt64} (hb : b.toNat < 2 ^ 63) : expOf b = Int32.ofNat (b.toNat / 2 ^ 52) - 1023 := by
  unfold expOf
  rw [own_andM hb, own_shr52 (by omega), own_l2iN (by omega)]
theorem own_lt1 {E : Nat} (h : E < 1023) : Int32.ofNat E - 1023 < 0 := by
  have e1 : (1023 : Int32).toInt = 1023 := by decide
  have e2 := Int32.toInt_ofNat_of_lt (n := E) (by omega)
  rw [XT.negI32, XT.sub32 (by unfold XT.fits32; rw [e1, e2]; omega), e1, e2]; omega
theorem own_ge1 : ∀ E : Fin 52, ¬ (Int32.ofNat (1023 + E.val) - 1023 < 0) ∧ Int32.ofNat (1023 + E.val) - 1023 < 52 ∧ (4503599627370495 : Int64) >>> ((Int32.ofNat (1023 + E.val) - 1023).toInt64 &&& 63) = Int64.ofNat (2 ^ (52 - E.val) - 1) := by decide +kernel
theorem own_cmp0 {b : UInt64} (hn : val64 b ≠ .nan) (hz : 0 < zval b64 (val64 b)) : Core.dcmp b 0 = some .gt := by
  have h0 : val64 (0 : UInt64) = .fin false 0 b64.qmin := val64_dconst0
  have := order_zval good_b64 (val64_fits b) (val64_fits 0) hn (by rw [h0]; exact Datum.noConfusion)
  have z0 : zval b64 (val64 (0 : UInt64)) = 0 := by rw [h0]; decide
  rw [z0] at this
  show order (val64 b) (val64 0) = _
  rw [this]
  congr 1
  generalize zval b64 (val64 b) = y at hz
  rw [Int.compare_eq_gt]; exact hz
theorem own_cmpneg {b : UInt64} (hn : val64 b ≠ .nan) (hz : 0 < zval b64 (val64 b)) : Core.dcmp (Core.dmul 0xBFF0000000000000 b) 0 = some .lt := by
  have e1 : Core.dmul 0xBFF0000000000000 b = Core.dneg b := by
    rw [show (0xBFF0000000000000 : UInt64) = Core.dneg 4607182418800017408 from by decide +kernel, dmul_dneg, one_dmul ((notNaN_iff b).mpr hn)]
  rw [e1]
  have h0 : val64 (0 : UInt64) = .fin false 0 b64.qmin := val64_dconst0
  have z0 : zval b64 (val64 (0 : UInt64)) = 0 := by rw [h0]; decide
  have zn : zval b64 (val64 (Core.dneg b)) = - zval b64 (val64 b) := by rw [Core.val64_dneg, zval_negate]
  have := order_zval good_b64 (val64_fits (Core.dneg b)) (val64_fits 0) (by rw [Core.val64_dneg]; exact negate_ne_nan hn) (by rw [h0]; exact Datum.noConfusion)
  rw [z0, zn] at this
  show order (val64 (Core.dneg b)) (val64 0) = _
  rw [this]
  congr 1
  generalize zval b64 (val64 b) = y at hz
  rw [Int.compare_eq_lt]; omega
theorem own_floor_lt {b : UInt64} (hb : b.toNat < 2 ^ 63) (hn : val64 b ≠ .nan) (hz : 0 < zval b64 (val64 b)) (hE : b.toNat / 2 ^ 52 < 1023) : floorOf b = 0 := by
  unfold floorOf focOf
  rw [own_exp hb, if_pos (own_lt1 hE), show FP.dcmp b 0 = some .gt from own_cmp0 hn hz]
  rfl
theorem own_floor_ge {b : UInt64} (hb : b.toNat < 2 ^ 63) (hn : val64 b ≠ .nan) (hz : 0 < zval b64 (val64 b)) {e : Nat} (he : e < 52) (hE : b.toNat / 2 ^ 52 = 1023 + e) : (floorOf b).toNat = b.toNat - b.toNat % 2 ^ (52 - e) := by
  obtain ⟨h1, h2, h3⟩ := own_ge1 ⟨e, he⟩
  have hx : expOf b = Int32.ofNat (1023 + e) - 1023 := by rw [own_exp hb, hE]
  have hm : maskOf b = Int64.ofNat (2 ^ (52 - e) - 1) := by unfold maskOf; rw [hx]; exact h3
  have hp := Nat.two_pow_pos (52 - e)
  have hle : 2 ^ (52 - e) ≤ 2 ^ 52 := Nat.pow_le_pow_right (by decide) (by omega)
  have hand : maskOf b &&& b.toInt64 = Int64.ofNat (b.toNat % 2 ^ (52 - e)) := by
    rw [hm]
    apply Int64.toBitVec_inj.mp
    apply BitVec.eq_of_toNat_eq
    rw [Int64.toBitVec_and, BitVec.toNat_and, own_hBits, own_hOf, own_hOf]
    have := Nat.mod_lt b.toNat hp
    rw [Nat.mod_eq_of_lt (a := 2 ^ (52 - e) - 1) (b := 2 ^ 64) (by omega), Nat.and_comm, Nat.and_two_pow_sub_one_eq_mod, Nat.mod_eq_of_lt (a := b.toNat % 2 ^ (52 - e)) (b := 2 ^ 64) (by omega)]
  unfold floorOf focOf
  rw [hx, if_neg h1, if_neg (fun q => q h2), hand]
  by_cases h0 : b.toNat % 2 ^ (52 - e) = 0
  · rw [h0, if_pos (by decide)]; omega
  · have hne : Int64.ofNat (b.toNat % 2 ^ (52 - e)) ≠ 0 := fun q => h0 (by
      have := Nat.mod_lt b.toNat hp
      have q2 : (Int64.ofNat (b.toNat % 2 ^ (52 - e))).toBitVec.toNat = 0 := by rw [q]; rfl
      have q3 : (b.toNat % 2 ^ (52 - e)) % 2 ^ 64 = 0 := q2
      rw [Nat.mod_eq_of_lt (by omega)] at q3; exact q3)
    rw [if_neg hne, show FP.dcmp (FP.dmul 0xBFF0000000000000 b) 0 = some .lt from own_cmpneg hn hz, if_pos (by decide)]
    unfold cutOf
    rw [hm]
    show (b.toBitVec &&& ~~~ (BitVec.ofNat 64 (2 ^ (52 - e) - 1))).toNat = _
    rw [BitVec.toNat_and, BitVec.toNat_not, BitVec.toNat_ofNat]
    show b.toNat &&& (2 ^ 64 - 1 - (2 ^ (52 - e) - 1) % 2 ^ 64) = _
    rw [Nat.mod_eq_of_lt (a := 2 ^ (52 - e) - 1) (b := 2 ^ 64) (by omega), show 2 ^ 64 - 1 - (2 ^ (52 - e) - 1) = 2 ^ 64 - 2 ^ (52 - e) from by omega]
    exact own_cutN (by omega) (by omega)
theorem own_whole {a : UInt64} {i : Nat} (hn : val64 a ≠ .nan) (hz : zval b64 (val64 a) = ((i * 2 ^ 1074 : Nat) : Int)) (hf : DFin a) : DInt (i : Int) a := by
  obtain ⟨s, c, q, h1⟩ := hf
  have hfit := val64_fits a
  unfold DInt
  rw [h1] at hz hfit ⊢
  have hq : b64.qmin ≤ q := hfit.2.1
  rw [qmin_b64] at hq
  have hz' : signed s (c * 2 ^ (q - b64.qmin).toNat) = ((i * 2 ^ 1074 : Nat) : Int) := hz
  rw [qmin_b64] at hz'
  show signed s (c * 2 ^ q.toNat) = (i : Int) * ((2 ^ (-q).toNat : Nat) : Int)
  have key : c * 2 ^ (q - -1074).toNat = i * 2 ^ 1074 ∧ (s = false ∨ c = 0) := by
    cases s
    · refine ⟨?_, Or.inl rfl⟩
      have : ((c * 2 ^ (q - -1074).toNat : Nat) : Int) = ((i * 2 ^ 1074 : Nat) : Int) := hz'
      exact Int.ofNat.inj this
    · have hz2 : -((c * 2 ^ (q - -1074).toNat : Nat) : Int) = ((i * 2 ^ 1074 : Nat) : Int) := hz'
      have hA : c * 2 ^ (q - -1074).toNat = 0 := by generalize c * 2 ^ (q - -1074).toNat = A at hz2; generalize i * 2 ^ 1074 = B at hz2; omega
      have hB : i * 2 ^ 1074 = 0 := by generalize c * 2 ^ (q - -1074).toNat = A at hz2 hA; generalize i * 2 ^ 1074 = B at hz2; omega
      refine ⟨hA.trans hB.symm, Or.inr ?_⟩
      rcases Nat.mul_eq_zero.mp hA with h | h
      · exact h
      · exact absurd h (Nat.pos_iff_ne_zero.mp (Nat.two_pow_pos _))
  obtain ⟨key, hs⟩ := key
  have key2 : c * 2 ^ q.toNat = i * 2 ^ (-q).toNat := by
    refine Nat.eq_of_mul_eq_mul_right (Nat.two_pow_pos (q - -1074).toNat) ?_
    rw [Nat.mul_right_comm, key, Nat.mul_assoc, Nat.mul_assoc, ← Nat.pow_add, ← Nat.pow_add]
    congr 2; omega
  rw [key2]
  rcases hs with rfl | h0
  · show ((i * 2 ^ (-q).toNat : Nat) : Int) = _; rw [Int.natCast_mul]
  · have : i = 0 := by
      rw [h0, Nat.zero_mul] at key
      rcases Nat.mul_eq_zero.mp key.symm with h | h
      · exact h
      · exact absurd h (Nat.pos_iff_ne_zero.mp (Nat.two_pow_pos _))
    rw [this]; cases s <;> simp [signed]
end OwnFloor
/-! ## Rounding.down on this law's doubles -/
section OwnDown
open Jvm.FP Jvm.FP.Core Jvm.Free.Hsc Jvm.Free.Fl Jvm.Native.java_lang_Math.nans
theorem own_bits {b : UInt64} (hn : val64 b ≠ .nan) (hz : 0 < zval b64 (val64 b)) : b.toNat < 2 ^ 63 ∧ zval b64 (val64 b) = ((unitsOf b64 b.toNat : Nat) : Int) := by
  have h1 := sgn_bits hn
  have h2 := zmag_bits hn
  have h3 : sgn (val64 b) = false := by
    unfold zval at hz
    generalize zmag b64 (val64 b) = z at hz
    cases hs : sgn (val64 b)
    · rfl
    · rw [hs] at hz; simp only [signed, if_true] at hz; omega
  rw [h3] at h1
  have h4 : b.toNat < 2 ^ 63 := Nat.lt_of_not_le (of_decide_eq_false h1.symm)
  rw [Nat.mod_eq_of_lt h4] at h2
  refine ⟨h4, ?_⟩
  unfold zval
  rw [h3, h2]; rfl
theorem own_down {n : Nat} (h : n + 1 < 2 ^ 45) (hm : n % 128 ≤ 126) : DInt ((n / 128 : Nat) : Int) (floorOf (Core.dadd (own_enc n) own_tol)) := by
  obtain ⟨hn, hz, hlo, hhi⟩ := own_near (n := n) (by omega)
  generalize Core.dadd (own_enc n) own_tol = b at hn hz hlo hhi
  obtain ⟨hb, hu⟩ := own_bits hn hz
  rw [hu] at hlo hhi
  have hlo' : n * 2 ^ 1067 ≤ unitsOf b64 b.toNat := Int.ofNat_le.mp hlo
  have hhi' : unitsOf b64 b.toNat ≤ (n + 1) * 2 ^ 1067 := Int.ofNat_le.mp hhi
  by_cases hE : b.toNat / 2 ^ 52 < 1023
  · rw [own_floor_lt hb hn hz hE]
    have hlt : b.toNat < 1023 * b64.tails := by rw [tails_b64]; omega
    have h2 := (units_lt_start (f := b64) hlt).2
    rw [tails_b64] at h2
    have h3 : n * 2 ^ 1067 < 128 * 2 ^ 1067 := Nat.lt_of_le_of_lt hlo' (Nat.lt_of_lt_of_le h2 (by decide +kernel))
    have h4 : n < 128 := Nat.lt_of_mul_lt_mul_right h3
    rw [Nat.div_eq_of_lt h4]
    show Whole 0 (val64 0)
    rw [show val64 (0 : UInt64) = .fin false 0 b64.qmin from val64_dconst0]
    show signed false (0 * 2 ^ b64.qmin.toNat) = (0 : Int) * _
    rw [Nat.zero_mul, Int.zero_mul]; rfl
  · obtain ⟨e, he⟩ : ∃ e, b.toNat / 2 ^ 52 = 1023 + e := ⟨b.toNat / 2 ^ 52 - 1023, by omega⟩
    have hun : unitsOf b64 b.toNat = (2 ^ 52 + b.toNat % 2 ^ 52) * 2 ^ (1022 + e) := by
      unfold Core.unitsOf
      rw [tails_b64, if_neg (by omega), he, show 1023 + e - 1 = 1022 + e from by omega]
    have he52 : e < 52 := by
      refine Nat.lt_of_not_le fun q => ?_
      have h1 : 2 ^ 52 * 2 ^ 1074 ≤ unitsOf b64 b.toNat := by
        rw [hun]
        exact Nat.mul_le_mul (Nat.le_add_right _ _) (Nat.pow_le_pow_right (by decide) (by omega))
      have h2 : unitsOf b64 b.toNat < 2 ^ 45 * 2 ^ 1067 := Nat.lt_of_le_of_lt hhi' (Nat.mul_lt_mul_of_pos_right h (Nat.two_pow_pos _))
      have h3 : (2 : Nat) ^ 45 * 2 ^ 1067 < 2 ^ 52 * 2 ^ 1074 := by decide +kernel
      exact absurd (Nat.lt_of_le_of_lt h1 h2) (Nat.not_lt.mpr (Nat.le_of_lt h3))
    have hf := own_floor_ge hb hn hz he52 he
    have hp := Nat.two_pow_pos (52 - e)
    have hle : 2 ^ (52 - e) ≤ 2 ^ 52 := Nat.pow_le_pow_right (by decide) (by omega)
    have hml := Nat.mod_lt b.toNat hp
    have hmod : b.toNat % 2 ^ (52 - e) = (b.toNat % 2 ^ 52) % 2 ^ (52 - e) := (Nat.mod_mod_of_dvd _ (Nat.pow_dvd_pow 2 (by omega))).symm
    have hmm : (b.toNat % 2 ^ 52) % 2 ^ (52 - e) ≤ b.toNat % 2 ^ 52 := Nat.mod_le _ _
    have hdm := Nat.div_add_mod b.toNat (2 ^ 52)
    rw [he] at hdm
    generalize hB : floorOf b = B at hf ⊢
    have hBd : B.toNat / 2 ^ 52 = 1023 + e := by rw [hf]; omega
    have hBm : B.toNat % 2 ^ 52 = b.toNat % 2 ^ 52 - (b.toNat % 2 ^ 52) % 2 ^ (52 - e) := by rw [hf, hmod]; omega
    have hBf : DFin B := by rw [fin_bits]; omega
    have hBn : val64 B ≠ .nan := hBf.ne_nan
    have hBs : sgn (val64 B) = false := by rw [sgn_bits hBn]; exact decide_eq_false (by omega)
    have hBz : zmag b64 (val64 B) = (2 ^ 52 + B.toNat % 2 ^ 52) * 2 ^ (1022 + e) := by
      rw [zmag_bits hBn, Nat.mod_eq_of_lt (by omega)]
      unfold Core.unitsOf
      rw [tails_b64, if_neg (by omega), hBd, show 1023 + e - 1 = 1022 + e from by omega]
    have hS : 2 ^ 52 + B.toNat % 2 ^ 52 = (2 ^ 52 + b.toNat % 2 ^ 52) / 2 ^ (52 - e) * 2 ^ (52 - e) := by
      have h1 := Nat.div_add_mod (2 ^ 52 + b.toNat % 2 ^ 52) (2 ^ (52 - e))
      have h2 : (2 ^ 52 + b.toNat % 2 ^ 52) % 2 ^ (52 - e) = (b.toNat % 2 ^ 52) % 2 ^ (52 - e) := by
        rw [Nat.add_mod, Nat.mod_eq_zero_of_dvd (Nat.pow_dvd_pow 2 (by omega : 52 - e ≤ 52)), Nat.zero_add, Nat.mod_mod]
      rw [h2] at h1
      rw [hBm, Nat.mul_comm]; omega
    have h74 : (2 : Nat) ^ (52 - e) * 2 ^ (1022 + e) = 2 ^ 1074 := by rw [← Nat.pow_add]; congr 1; omega
    have hq : (2 ^ 52 + b.toNat % 2 ^ 52) / 2 ^ (52 - e) = n / 128 := by
      rw [← Nat.mul_div_mul_right _ _ (Nat.two_pow_pos (1022 + e)), ← hun, h74]
      have h128 : (2 : Nat) ^ 1074 = 128 * 2 ^ 1067 := by decide +kernel
      have hdn := Nat.div_add_mod n 128
      refine Nat.div_eq_of_lt_le ?_ ?_
      · rw [h128, ← Nat.mul_assoc]
        exact Nat.le_trans (Nat.mul_le_mul_right _ (by omega)) hlo'
      · refine Nat.lt_of_le_of_lt hhi' ?_
        rw [h128, ← Nat.mul_assoc]
        exact Nat.mul_lt_mul_of_pos_right (by omega) (Nat.two_pow_pos _)
    have key : (2 ^ 52 + B.toNat % 2 ^ 52) * 2 ^ (1022 + e) = n / 128 * 2 ^ 1074 := by rw [hS, hq, Nat.mul_assoc, h74]
    refine own_whole hBn ?_ hBf
    unfold zval
    rw [hBs, hBz, key]
    rfl
theorem own_max {w : UInt64} {i : Nat} (hw : DInt (i : Int) w) : DInt (i : Int) (pick64 true 0 w) := by
  have h0 : DInt 0 (0 : UInt64) := by
    show Whole 0 (val64 0)
    rw [show val64 (0 : UInt64) = .fin false 0 b64.qmin from val64_dconst0]
    show signed false (0 * 2 ^ b64.qmin.toNat) = (0 : Int) * _
    rw [Nat.zero_mul, Int.zero_mul]; rfl
  unfold pick64
  rw [show FP.dcmp 0 w = some (compare (0 : Int) (i : Int)) from dcmp_int h0 hw]
  by_cases hi : i = 0
  · subst hi; exact h0
  · rw [show compare (0 : Int) (i : Int) = .lt from Int.compare_eq_lt.mpr (by omega)]; exact hw
theorem own_min {w : UInt64} {i : Nat} (hw : DInt (i : Int) w) (hi : i < 2147483647) : pick64 false 4746794007244308480 w = w := by
  have hM : DInt 2147483647 (4746794007244308480 : UInt64) := by
    have : DInt (2147483647 : Int32).toInt (Core.i2d 2147483647) := i2d_int _
    rw [show Core.i2d 2147483647 = 4746794007244308480 from by decide +kernel] at this
    exact this
  unfold pick64
  rw [show FP.dcmp 4746794007244308480 w = some (compare (2147483647 : Int) (i : Int)) from dcmp_int hM hw, show compare (2147483647 : Int) (i : Int) = .gt from Int.compare_eq_gt.mpr (by omega)]
  rfl
theorem own_DInt_nn {w : UInt64} {i : Int} (hw : DInt i w) : NoNaN64 w := by
  have h := DInt_ne_nan hw
  rw [ne_nan] at h
  rw [noNaN64_iff]; exact h
theorem own_clamp {n : Nat} (h : n + 1 < 2 ^ 37 + 2 ^ 20) (hm : n % 128 ≤ 126) : FP.d2i (pick64 false 4746794007244308480 (pick64 true 0 (floorOf (FP.dadd (own_enc n) own_tol)))) = Int32.ofNat (n / 128) := by
  have h1 := own_max (own_down (n := n) (by omega) hm)
  rw [own_min h1 (by omega)]
  refine d2i_int ?_
  rw [Int32.toInt_ofNat_of_lt (by omega)]; exact h1
theorem own_nn {n : Nat} (h : n < 2 ^ 53) : NoNaN64 (own_enc n) := by
  have h := own_enc_ne h
  rw [ne_nan] at h
  rw [noNaN64_iff]; exact h
theorem own_nn_tol {n : Nat} (h : n + 1 < 2 ^ 53) : NoNaN64 (FP.dadd (own_enc n) own_tol) := by
  have h := (own_near h).1
  rw [ne_nan] at h
  rw [noNaN64_iff]; exact h
theorem own_tolbits {n : Nat} (h : n + 1 < 2 ^ 38) : (FP.dadd (own_enc n) own_tol).toNat < 2 ^ 63 ∧ val64 (FP.dadd (own_enc n) own_tol) ≠ .nan ∧ 0 < zval b64 (val64 (FP.dadd (own_enc n) own_tol)) ∧ (FP.dadd (own_enc n) own_tol).toNat / 2 ^ 52 < 1075 := by
  obtain ⟨hn, hz, hlo, hhi⟩ := own_near (n := n) (by omega)
  show (Core.dadd (own_enc n) own_tol).toNat < 2 ^ 63 ∧ val64 (Core.dadd (own_enc n) own_tol) ≠ .nan ∧ 0 < zval b64 (val64 (Core.dadd (own_enc n) own_tol)) ∧ (Core.dadd (own_enc n) own_tol).toNat / 2 ^ 52 < 1075
  generalize Core.dadd (own_enc n) own_tol = b at hn hz hlo hhi
  obtain ⟨hb, hu⟩ := own_bits hn hz
  refine ⟨hb, hn, hz, ?_⟩
  rw [hu] at hhi
  have hhi' : unitsOf b64 b.toNat ≤ (n + 1) * 2 ^ 1067 := Int.ofNat_le.mp hhi
  refine Nat.lt_of_not_le fun q => ?_
  have h1 : 1075 * b64.tails ≤ b.toNat := by rw [tails_b64]; omega
  have h2 := (unitsOf_le_iff (f := b64)).mpr h1
  rw [unitsOf_start (by decide), tails_b64] at h2
  have h3 : (n + 1) * 2 ^ 1067 < 2 ^ 38 * 2 ^ 1067 := Nat.mul_lt_mul_of_pos_right h (Nat.two_pow_pos _)
  have h4 : (2 : Nat) ^ 38 * 2 ^ 1067 < 2 ^ 52 * 2 ^ (1075 - 1) := by decide +kernel
  exact absurd (Nat.le_trans h2 hhi') (Nat.not_le.mpr (Nat.lt_trans h3 h4))
end OwnDown
/-! ## A walk under a native's frame: no contract can pay it (a native weighs 1,024 words in a claim), so its callees are walked in place -/
section OwnInner
open Jvm.Free.Hsc
variable {p : Program} {l : Launch} {e : Env} {R : Room} {s : State} {m : MethodId} {args : Array Value} {below : List Frame} {meth : Method} {c : Code} {T : State} {locs : List Loc} {cells slots : Nat}
def own_V (T : State) (vm : Vm) (F : List Frame) : State := (T.setFrames F).setVm vm
theorem own_V_frames {vm : Vm} {F : List Frame} (h : T.cur < T.threads.size) : (own_V T vm F).frames = F := State.frames_setFrames F h
theorem own_V_top {vm : Vm} {f g : JFrame} {B : List Frame} (h : T.cur < T.threads.size) : (own_V T vm (.java f :: B)).setTop g = own_V T vm (.java g :: B) := by
  rw [State.setTop_of_frames g (own_V_frames h)]
  show ((T.setFrames (.java f :: B)).setFrames (.java g :: B)).setVm vm = _
  rw [State.setFrames_setFrames]; rfl
theorem own_V_set {vm : Vm} {F G : List Frame} : (own_V T vm F).setFrames G = own_V T vm G := by
  show ((T.setFrames F).setFrames G).setVm vm = _
  rw [State.setFrames_setFrames]; rfl
theorem own_V_vm {vm vm' : Vm} {F : List Frame} : (own_V T vm F).setVm vm' = own_V T vm' F := rfl
theorem own_cur (X : Stand p l e R s m args below meth c T locs cells slots) : T.cur < T.threads.size := by
  obtain ⟨g₀, hg⟩ := X.frames_eq
  exact State.cur_lt_of_frames hg
theorem own_at (X : Stand p l e R s m args below meth c T locs cells slots) {vm : Vm} (hW : s.WarmedH vm) {F mid : List Frame} (hF : F = mid ++ below) {f : JFrame} {y : MethodName} {m' : MethodId} {meth' : Method} {c' : Code} (hp : plainFor y = true) (hn : s.methodNamed? y = some m') (hm : s.vm.method? m' = some meth') (hc : meth'.code = some c') :
    At (own_V T vm (.java f :: F)) m' c' below := by
  have hcur := own_cur X
  have hf : (T.setFrames (.java f :: F)).frames = .java f :: F := State.frames_setFrames _ hcur
  have hp' : s.plainMethod m' := State.plainMethod.of_named hp hn hm
  have hpl : (T.setFrames (.java f :: F)).plainMethod m' := by
    intro k hk
    have hk2 : T.vm.classes[m'.cls]? = some k := hk
    cases hs : s.vm.classes[m'.cls]? with
    | none => rw [X.warmed.alike.none hs] at hk2; cases hk2
    | some k0 =>
      obtain ⟨k1, h1, h2⟩ := X.warmed.alike.2.2 _ _ hs
      cases h1.symm.trans hk2
      exact plain_congr (by rw [h2]) (by rw [h2]) (hp' k0 hs)
  have h1 : At (T.setFrames (.java f :: F)) m' c' below :=
    ⟨by rw [State.topJava?_of_frames hf]; rfl, ⟨mid, by rw [hf]; exact hF⟩, X.here.running, by rw [State.curStatus?_setFrames]; exact X.here.runnable, by rw [State.alone_setFrames]; exact X.here.alone,
      by rw [State.code?_eq]; show (T.vm.method? m').bind _ = _; rw [X.warmed.alike.method?, hm]; exact hc, hpl⟩
  exact h1.setVm (X.warmed.alike.symm.trans hW.alike)
theorem own_weight (xs ys : List Frame) : stackWeight (xs ++ ys) = stackWeight xs + stackWeight ys := by
  unfold stackWeight; rw [List.map_append, List.sum_append]
theorem own_room (X : Stand p l e R s m args below meth c T locs cells slots) {g : JFrame} (hsize : g.locals.size = c.maxLocals) (hmr : g.monitorRoom = 0) {xs : List Frame} {N : NFrame} (hN : N.words = 0) {vm : Vm} {vars : Nat} (h1 : xs.length + 2 ≤ R.frames)
    (h2 : stackWeight xs + (g.stack.map fun v => v.category).sum + vars + 11 ≤ R.locals) {u : State} (hu : u = own_V T vm (xs ++ .native N :: .java g :: below)) : e.platform.stackFull ((u.threads[u.cur]?).getD { frames := [] }) u.frames vars = false := by
  have hcur := own_cur X
  obtain ⟨-, r2, -, r4⟩ := State.hasRoom_stack X.room
  rw [State.localsInUse_invoking X.frames X.method X.code] at r4
  rw [X.frames, List.length_cons] at r2
  have hF : u.frames = xs ++ .native N :: .java g :: below := by rw [hu]; exact own_V_frames hcur
  have hlim : e.platform.stackLimits u.me = e.platform.stackLimits s.me := by
    rw [hu]
    show e.platform.stackLimits (T.setFrames _).me = _
    rw [State.stackLimits_setFrames, X.limits]
  have hw : stackWeight (.native N :: .java g :: below) = stackWeight below + (c.maxLocals + 11) + (g.stack.map fun v => v.category).sum + 1024 := by
    rw [stackWeight_other (.native N) _ (fun f q => nomatch q) hN, stackWeight_java, hsize, hmr]
    show _ + 1024 = _
    omega
  refine stackFull_of hF ?_ ?_
  · rw [hlim, List.length_append, List.length_cons, List.length_cons]; omega
  · rw [hlim, own_weight, hw]
    have : vmFrameWords = 1024 := rfl
    omega
section Steps
variable {V : State}
theorem own_ldcD (A : At V m c below) (hx : p.tables.exec = Jvm.exec) (hW : s.WarmedH V.vm) {own : String} {index : Nat} {b : UInt64} (hown : s.vm.findClass own = some m.cls) (hconst : (Cond.constantDouble own index b).before args s = true) {g : JFrame} (hg : g.method = m) (hdg : decode c.code g.pc = .ok (.ldc2_w index, 3)) {target : State}
    (hrest : Steps p.tables e below (V.setTop { g with pc := g.pc + 3, stack := .double b :: g.stack }) target) : Steps p.tables e below (V.setTop g) target := by
  obtain ⟨k, cf, hk, hcf, hcp⟩ := Cond.constantDouble_spec hown hconst
  obtain ⟨k', hk', he⟩ := hW.alike.2.2 _ _ hk
  subst hg
  jvm_step A [hx, hdg, ldc2_w.wp_double (s := V) (f := g) A.top hk' (by rw [he]; exact hcf) hcp]
  exact hrest
theorem own_ldcJ (A : At V m c below) (hx : p.tables.exec = Jvm.exec) (hW : s.WarmedH V.vm) {own : String} {index : Nat} {v : Int64} (hown : s.vm.findClass own = some m.cls) (hconst : (Cond.constantLong own index v).before args s = true) {g : JFrame} (hg : g.method = m) (hdg : decode c.code g.pc = .ok (.ldc2_w index, 3)) {target : State}
    (hrest : Steps p.tables e below (V.setTop { g with pc := g.pc + 3, stack := .long v :: g.stack }) target) : Steps p.tables e below (V.setTop g) target := by
  obtain ⟨k, cf, bytes, hk, hcf, hcp, hb⟩ := Cond.constantLong_spec hown hconst
  obtain ⟨k', hk', he⟩ := hW.alike.2.2 _ _ hk
  subst hg
  jvm_step A [hx, hdg, ldc2_w.wp_long (s := V) (f := g) A.top hk' (by rw [he]; exact hcf) hcp, hb]
  exact hrest
theorem own_link (A : At V m c below) (hx : p.tables.exec = Jvm.exec) (hadm : l.admits e) (hW : s.WarmedH V.vm) {own : String} {index : Nat} {y : MethodName} (hown : s.vm.findClass own = some m.cls) (hlink : (Cond.methodLink own index y).before args s = true)
    {m' : MethodId} {meth' : Method} {k' : Class} (hn : s.methodNamed? y = some m') (hm' : s.vm.method? m' = some meth') (hstatic : meth'.isStatic = true) (hk' : s.vm.classes[m'.cls]? = some k') (hinit : k'.init = .initialized) (hy : y.cls ≠ "java/lang/invoke/MethodHandle" ∧ y.cls ≠ "java/lang/invoke/VarHandle")
    {g : JFrame} (hg : g.method = m) {argsL rest : List Value} (hlen : argsL.length = meth'.sig.parameters.length) (hstack : g.stack = argsL.reverse ++ rest) (hdg : decode c.code g.pc = .ok (.invokestatic index, 3)) :
    ∃ vm', s.WarmedH vm' ∧ ∀ target, (∀ acts, Steps p.tables e below (doInvoke e ((V.setVm vm').setTop { g with stack := rest }) acts m' argsL.toArray).1 target) → Steps p.tables e below (V.setTop g) target := by
  have hpl : e.platform.magicAccessors = ({} : Platform).magicAccessors := by rw [hadm.platform]
  have hpv : e.platform.polymorphicOnlyByInvokevirtual = true := by rw [hadm.platform]
  obtain ⟨ci, hl, hright⟩ := Cond.methodLink_spec hown hn hlink e.platform hpl
  obtain ⟨kx, hkx, hnx⟩ := className_of_methodNamed hn
  cases hk'.symm.trans hkx
  have hE : s.MethodEntry e V.vm m.cls index m' ci := State.methodEntry hW hl hright fun k hk => by
    cases hk'.symm.trans hk
    rw [hnx]; exact hy
  obtain ⟨dk, cfile, nt, mname, mdesc, via, ck, _, hd, hcf, hcp, hnt, -, -, hck, -, hnopoly, -⟩ := hl.here
  cases hk'.symm.trans hck
  obtain ⟨dk₂, hdk₂, hed₂⟩ := hE.warmed.alike.2.2 _ _ hd
  obtain ⟨k₂, hk₂, he₂⟩ := hE.warmed.alike.2.2 _ _ hk'
  have hnone : (k'.methods.any fun z => z.name == mname && !z.isStatic && signaturePolymorphic k' z) = false := by simp [hnopoly]
  have hnone₂ : (k₂.methods.any fun z => z.name == mname && !z.isStatic && signaturePolymorphic k₂ z) = false := by rw [he₂]; exact hnone
  refine ⟨V.vm.called m.cls ci index m', hE.warmed, fun target hrest => ?_⟩
  subst hg
  jvm_step A [hx, hdg, invokestatic.wp_cold (e := e) (s := V) (s₀ := s) (f := g) A.top hpv hW hE hd hcf hcp hnt hk' hnone,
    invokestatic.wp_ready (e := e) (s := V.setVm (V.vm.called g.method.cls ci index m')) (k := k₂) (meth := meth') (m := m') (args := argsL) (rest := rest) (f := g)
      A.top ⟨ci, mname, mdesc, via, m'.cls, k₂, memberRef_ask_via (e := e) hdk₂ (by rw [hed₂]; exact hcf) hcp hnt, hE.classReady, hk₂, hnone₂⟩ hE.ready hk₂
      (by show (V.vm.called g.method.cls ci index m').method? m' = some meth'; rw [hE.warmed.alike.method?]; exact hm') (by rw [he₂]; exact hnopoly meth') hstatic (by rw [he₂]; exact hinit) hlen hstack]
  exact fun acts => hrest _
theorem own_getS (A : At V m c below) (hx : p.tables.exec = Jvm.exec) (hadm : l.admits e) (hW : s.WarmedH V.vm) {Z : State} (hZ : Z.Warmed39 s.vm) {own O n d : String} {index : Nat} (hown : s.vm.findClass own = some m.cls) (hlink : (Cond.fieldLink own index O n d).before args s = true) {v : Value} (F : Sta Z V.heap O n d v)
    {g : JFrame} (hg : g.method = m) (hdg : decode c.code g.pc = .ok (.getstatic index, 3)) :
    ∃ vm', s.WarmedH vm' ∧ ∀ target, Steps p.tables e below ((V.setVm vm').setTop { g with pc := g.pc + 3, stack := v :: g.stack }) target → Steps p.tables e below (V.setTop g) target := by
  obtain ⟨cf, i, k, f, st, cell, h1, h2, h3, h4, h5, h6, h7⟩ := F
  obtain ⟨k', hi, ek⟩ := State.fieldFound?_setVm (s := Z) hZ.alike h1
  have hpl : e.platform.magicAccessors = ({} : Platform).magicAccessors := by rw [hadm.platform]
  obtain ⟨ci', cfl, k2, i2, f2, hi2, hlinks, hright⟩ := Cond.fieldLink_spec hown hlink e.platform hpl
  cases hi.symm.trans hi2
  obtain ⟨hk, hf⟩ := State.fieldFound?_spec hi
  obtain ⟨vm', hgives, hW', hready, hfi⟩ := State.fieldEntry (e := e) hW hlinks hright hk hf
  obtain ⟨kc, hkc, hekc⟩ := hW'.alike.2.2 _ _ hk
  refine ⟨vm', hW', fun target hrest => ?_⟩
  subst hg
  jvm_step A [hx, hdg, getstatic.wp_cold (e := e) (s := V) (f := g) A.top hgives hready hfi,
    getstatic.wp_ready (e := e) (s := V.setVm vm') (f := g) A.top hready h2 hkc (by rw [hekc, ek]; exact h3) (by rw [hekc, ek]; exact h4) (show (V.setVm vm').heap[st]? = some cell from h5) (fun q => by rw [q] at h6; cases h6) h7]
  exact hrest
theorem own_ret (A : At V m c below) (hx : p.tables.exec = Jvm.exec) (hm : V.vm.method? m = some meth) (hl : meth.locks = false) {pc : Nat} {Ls : Array Slot} {w : Value} {t : FieldType} {i : Instr} {rest : List Value} (hret : meth.sig.returnType = some t)
    (hi : (i = .ireturn ∧ t = .int ∧ ∃ z, w = .int z) ∨ (i = .dreturn ∧ t = .double ∧ ∃ z, w = .double z)) (hd : decode c.code pc = .ok (i, 1)) {f₀ : JFrame} {B fs : List Frame} (hf : V.frames = .java f₀ :: B) (hfs : handOver V (some w) B = some fs) :
    Steps p.tables e below (V.setTop (mkF m pc Ls (w :: rest))) (V.setFrames fs) := by
  have hend : ∀ (f : JFrame) (acts : List Action), f.method = m → f.locked = none → f.entered = [] → (doReturn e (V.setTop f) acts (some w)).1 = V.setFrames fs := fun f acts h1 h2 h3 => by
    subst h1; exact ret_to hf hm hl h2 h3 hfs acts
  rcases hi with ⟨rfl, rfl, z, rfl⟩ | ⟨rfl, rfl, z, rfl⟩
  all_goals
    show Steps p.tables e below (V.setTop { method := m, pc := pc, locals := Ls, stack := _ :: rest, locked := none }) _
    jvm_step A [A.top, hx, hd, hm, hret, narrow]
    first | (intro acts; rw [hend _ acts rfl rfl rfl]) | rw [hend _ _ rfl rfl rfl] | (refine ⟨meth, hm, ⟨_, hret, rfl⟩, fun acts => ?_⟩; rw [hend _ acts rfl rfl rfl])
    exact Steps.refl _
end Steps
end OwnInner
/-! ## Math.floor, walked in place (printed by gen460_inner.py) -/
section OwnFloorWalk
open Jvm.Free.Hsc
variable {p : Program} {l : Launch} {e : Env} {R : Room} {s : State} {m : MethodId} {args : Array Value} {below : List Frame} {meth : Method} {c : Code} {T : State} {locs : List Loc} {cells slots : Nat}
theorem own_enter (hcur : T.cur < T.threads.size) {vm : Vm} {B : List Frame} {f g : JFrame} {m' : MethodId} {meth' : Method} {c' : Code} {args' : Array Value} (acts : List Action) (hm : vm.method? m' = some meth') (hc : meth'.code = some c') (hl : meth'.locks = false) {f' : JFrame} (hf' : entryFrame m' args' c'.maxLocals = f')
    (hroom : e.platform.stackFull (((own_V T vm (.java g :: B)).threads[(own_V T vm (.java g :: B)).cur]?).getD { frames := [] }) (own_V T vm (.java g :: B)).frames c'.maxLocals = false) :
    (doInvoke e ((own_V T vm (.java f :: B)).setTop g) acts m' args').1 = own_V T vm (.java f' :: .java g :: B) := by
  rw [own_V_top hcur, (doInvoke_java (s := own_V T vm (.java g :: B)) (e := e) (acts := acts) (args := args') (meth := meth') (code := c') hm hc hl hroom).1]
  unfold State.pushFrame
  rw [own_V_frames hcur, own_V_set, ← hf']
  rfl
theorem own_handJ {V : State} {v : Value} {g : JFrame} {B : List Frame} {cg : Code} {ig : Instr} {len : Nat} (hcode : V.code? g.method = some cg) (hdg : decode cg.code g.pc = .ok (ig, len)) : handOver V (some v) (.java g :: B) = some (.java { g with pc := g.pc + len, stack := v :: g.stack } :: B) := by
  simp [handOver, hcode, hdg, Except.toOption]
theorem own_codeV {vm : Vm} {F : List Frame} (hW : s.WarmedH vm) {mg : MethodId} {methg : Method} {cg : Code} (hmg : s.vm.method? mg = some methg) (hcg : methg.code = some cg) : (own_V T vm F).code? mg = some cg := by
  rw [State.code?_eq]; show (vm.method? mg).bind _ = _; rw [hW.alike.method?, hmg]; exact hcg
theorem own_n4 : nativeFrameWords "java/lang/Double" "doubleToRawLongBits" 2 = 4 := by decide +kernel
theorem own_n4' : nativeFrameWords "java/lang/Double" "longBitsToDouble" 2 = 4 := by decide +kernel
theorem own_wcons (f : JFrame) (xs : List Frame) : stackWeight (.java f :: xs) = 11 + f.locals.size + 2 * f.monitorRoom + (f.stack.map fun v => v.category).sum + stackWeight xs := by
  rw [stackWeight_cons]; rfl
theorem dgx_0 : decode jdk_29_method_92_code 0 = .ok (.dload_n 0, 1) := by decide +kernel
theorem dgx_1 : decode jdk_29_method_92_code 1 = .ok (.invokestatic 79, 3) := by decide +kernel
theorem dgx_4 : decode jdk_29_method_92_code 4 = .ok (.ldc2_w 87, 3) := by decide +kernel
theorem dgx_7 : decode jdk_29_method_92_code 7 = .ok (.land, 1) := by decide +kernel
theorem dgx_8 : decode jdk_29_method_92_code 8 = .ok (.bipush 52, 2) := by decide +kernel
theorem dgx_10 : decode jdk_29_method_92_code 10 = .ok (.lshr, 1) := by decide +kernel
theorem dgx_11 : decode jdk_29_method_92_code 11 = .ok (.ldc2_w 322, 3) := by decide +kernel
theorem dgx_14 : decode jdk_29_method_92_code 14 = .ok (.lsub, 1) := by decide +kernel
theorem dgx_15 : decode jdk_29_method_92_code 15 = .ok (.l2i, 1) := by decide +kernel
theorem dgx_16 : decode jdk_29_method_92_code 16 = .ok (.ireturn, 1) := by decide +kernel
theorem own_expOf (b : UInt64) : (((b.toInt64 &&& 9218868437227405312) >>> ((52 : Int32).toInt64 &&& 63)) - 1023).toInt32 = expOf b := by
  unfold expOf; rw [Int64.toInt32_sub]; rfl
set_option maxRecDepth 65536 in
set_option maxHeartbeats 4000000 in
theorem own_gx (X : Stand p l e R s m args below meth c T locs cells slots) (hx : p.tables.exec = Jvm.exec) {Z : State} (hZ : Z.Warmed39 s.vm) {a0 : Array Value} (hw : ∀ d ∈ tables_1, d.before a0 Z = true) {vm : Vm} (hW : s.WarmedH vm) {B mid : List Frame} (hB : B = mid ++ below) (hroom : ∀ (xs : List Frame) (vm' : Vm) (vars : Nat) (u : State), xs.length ≤ 3 → stackWeight xs + vars ≤ 90 → u = own_V T vm' (xs ++ B) → e.platform.stackFull ((u.threads[u.cur]?).getD { frames := [] }) u.frames vars = false) {g : JFrame} {methg : Method} {cg : Code} {ig : Instr} (hmg : s.vm.method? g.method = some methg) (hcg : methg.code = some cg) (hdg : decode cg.code g.pc = .ok (ig, 3)) {mG : MethodId} {methG : Method} {cG : Code} (hnG : s.methodNamed? (⟨"java/lang/Math", "getExponent", "(D)I"⟩ : MethodName) = some mG) (hmG : s.vm.method? mG = some methG) (hcG : methG.code = some cG) (hlG : methG.locks = false) (hrG : methG.sig.returnType = some .int) (hmlG : cG.maxLocals = 2) (hbyG : cG.code = jdk_29_method_92_code) (hgw : stackWeight [.java g] ≤ 40) (b : UInt64) :
    ∃ vm', s.WarmedH vm' ∧ Steps p.tables e below (own_V T vm (.java (mkF mG 0 #[.val (.double b), .second] []) :: .java g :: B)) (own_V T vm' (.java { g with pc := g.pc + 3, stack := .int (expOf b) :: g.stack } :: B)) := by
  have hcur := own_cur X
  have hown : s.vm.findClass "java/lang/Math" = some mG.cls := findClass_of_methodNamed hnG
  have A0 : At (own_V T vm (.java (mkF mG 0 #[.val (.double b), .second] []) :: .java g :: B)) mG cG below := own_at X hW (mid := .java g :: mid) (by rw [hB]; rfl) (by decide +kernel) hnG hmG hcG
  obtain ⟨r, kS, methS, hnS, hmS, hkS, N⟩ := NativeOf.of_static (args := args) (mvT (args := args) hZ (hw _ (List.mem_of_getElem? (i := 65) rfl))) (mvT (args := args) hZ (hw _ (List.mem_of_getElem? (i := 63) rfl))) (ps := [.double]) (ret := some .long) (by decide +kernel)
  have hinitS : kS.init = .initialized := Cond.initialized_spec (findClass_of_methodNamed hnS) hkS (mvT (args := args) hZ (hw _ (List.mem_of_getElem? (i := 64) rfl)))
  obtain ⟨vm1, hW1, st1⟩ := own_link A0 hx X.admits hW hown (mvT (args := args) hZ (hw _ (List.mem_of_getElem? (i := 62) rfl))) hnS hmS N.static hkS hinitS (by decide) (g := (mkF mG 1 #[.val (.double b), .second] [.double b])) rfl (argsL := [.double b]) (rest := []) (by rw [N.sig]; rfl) rfl (hb hbyG dgx_1)
  obtain ⟨kS', N'⟩ := N.alike hW1.alike
  have A1 : At (own_V T vm1 (.java (mkF mG 0 #[.val (.double b), .second] []) :: .java g :: B)) mG cG below := A0.setVm (hW.alike.symm.trans hW1.alike)
  have hr1 := hroom [.java (mkF mG 1 #[.val (.double b), .second] []), .java g] vm1 (nativeFrameWords "java/lang/Double" "doubleToRawLongBits" 2) ((own_V T vm1 (.java (mkF mG 0 #[.val (.double b), .second] []) :: .java g :: B)).setTop (mkF mG 1 #[.val (.double b), .second] [])) (by simp) (by rw [own_n4, own_wcons]; show 11 + 2 + 2 * 0 + 0 + stackWeight [.java g] + 4 ≤ 90; omega) (own_V_top hcur)
  refine ⟨vm1, hW1, ?_⟩
  have e0 : own_V T vm (.java (mkF mG 0 #[.val (.double b), .second] []) :: .java g :: B) = (own_V T vm (.java (mkF mG 0 #[.val (.double b), .second] []) :: .java g :: B)).setTop (mkF mG 0 #[.val (.double b), .second] []) := (own_V_top hcur).symm
  have e9 : own_V T vm1 (.java { g with pc := g.pc + 3, stack := .int (expOf b) :: g.stack } :: B) = (own_V T vm1 (.java (mkF mG 0 #[.val (.double b), .second] []) :: .java g :: B)).setFrames (.java { g with pc := g.pc + 3, stack := .int (expOf b) :: g.stack } :: B) := own_V_set.symm
  rw [e0, e9]
  show Steps p.tables e below ((own_V T vm (.java (mkF mG 0 #[.val (.double b), .second] []) :: .java g :: B)).setTop (mkF mG 0 #[.val (.double b), .second] [])) _
  refine XS.dloadN A0 hx rfl (hb hbyG dgx_0) rfl ?_
  show Steps p.tables e below ((own_V T vm (.java (mkF mG 0 #[.val (.double b), .second] []) :: .java g :: B)).setTop (mkF mG 1 #[.val (.double b), .second] [(.double b)])) _
  refine st1 _ fun acts => ?_
  rw [show (own_V T vm (.java (mkF mG 0 #[.val (.double b), .second] []) :: .java g :: B)).setVm vm1 = own_V T vm1 (.java (mkF mG 0 #[.val (.double b), .second] []) :: .java g :: B) from rfl]
  refine Steps.doubleToRawLongBitsOf (g := (mkF mG 1 #[.val (.double b), .second] [])) (ig := .invokestatic 79) (len := 3) p A1 acts N' b hr1 (hb hbyG dgx_1) ?_
  show Steps p.tables e below ((own_V T vm1 (.java (mkF mG 0 #[.val (.double b), .second] []) :: .java g :: B)).setTop (mkF mG 4 #[.val (.double b), .second] [(.long b.toInt64)])) _
  refine own_ldcJ (v := 9218868437227405312) (own := "java/lang/Math") (index := 87) (g := (mkF mG 4 #[.val (.double b), .second] [(.long b.toInt64)])) A1 hx hW1 hown (mvT (args := args) hZ (hw _ (List.mem_of_getElem? (i := 66) rfl))) rfl (hb hbyG dgx_4) ?_
  show Steps p.tables e below ((own_V T vm1 (.java (mkF mG 0 #[.val (.double b), .second] []) :: .java g :: B)).setTop (mkF mG 7 #[.val (.double b), .second] [(.long 9218868437227405312), (.long b.toInt64)])) _
  refine XT.land A1 hx rfl (hb hbyG dgx_7) rfl ?_
  show Steps p.tables e below ((own_V T vm1 (.java (mkF mG 0 #[.val (.double b), .second] []) :: .java g :: B)).setTop (mkF mG 8 #[.val (.double b), .second] [(.long (b.toInt64 &&& 9218868437227405312))])) _
  refine XT.bipushV A1 hx rfl 52 (hb hbyG dgx_8) (by decide) ?_
  show Steps p.tables e below ((own_V T vm1 (.java (mkF mG 0 #[.val (.double b), .second] []) :: .java g :: B)).setTop (mkF mG 10 #[.val (.double b), .second] [(.int 52), (.long (b.toInt64 &&& 9218868437227405312))])) _
  refine XT.lshr A1 hx rfl (hb hbyG dgx_10) rfl ?_
  show Steps p.tables e below ((own_V T vm1 (.java (mkF mG 0 #[.val (.double b), .second] []) :: .java g :: B)).setTop (mkF mG 11 #[.val (.double b), .second] [(.long ((b.toInt64 &&& 9218868437227405312) >>> ((52 : Int32).toInt64 &&& 63)))])) _
  refine own_ldcJ (v := 1023) (own := "java/lang/Math") (index := 322) (g := (mkF mG 11 #[.val (.double b), .second] [(.long ((b.toInt64 &&& 9218868437227405312) >>> ((52 : Int32).toInt64 &&& 63)))])) A1 hx hW1 hown (mvT (args := args) hZ (hw _ (List.mem_of_getElem? (i := 67) rfl))) rfl (hb hbyG dgx_11) ?_
  show Steps p.tables e below ((own_V T vm1 (.java (mkF mG 0 #[.val (.double b), .second] []) :: .java g :: B)).setTop (mkF mG 14 #[.val (.double b), .second] [(.long 1023), (.long ((b.toInt64 &&& 9218868437227405312) >>> ((52 : Int32).toInt64 &&& 63)))])) _
  refine XT.lsub A1 hx rfl (hb hbyG dgx_14) rfl ?_
  show Steps p.tables e below ((own_V T vm1 (.java (mkF mG 0 #[.val (.double b), .second] []) :: .java g :: B)).setTop (mkF mG 15 #[.val (.double b), .second] [(.long (((b.toInt64 &&& 9218868437227405312) >>> ((52 : Int32).toInt64 &&& 63)) - 1023))])) _
  refine XT.l2i A1 hx rfl (hb hbyG dgx_15) rfl ?_
  show Steps p.tables e below ((own_V T vm1 (.java (mkF mG 0 #[.val (.double b), .second] []) :: .java g :: B)).setTop (mkF mG 16 #[.val (.double b), .second] [(.int ((((b.toInt64 &&& 9218868437227405312) >>> ((52 : Int32).toInt64 &&& 63)) - 1023).toInt32))])) _
  rw [own_expOf]
  exact own_ret A1 hx (by show vm1.method? mG = _; rw [hW1.alike.method?]; exact hmG) hlG hrG (Or.inl ⟨rfl, rfl, _, rfl⟩) (hb hbyG dgx_16) (own_V_frames hcur) (own_handJ (own_codeV hW1 hmg hcg) hdg)
theorem dfo_0 : decode jdk_128_method_18_code 0 = .ok (.dload_n 0, 1) := by decide +kernel
theorem dfo_1 : decode jdk_128_method_18_code 1 = .ok (.invokestatic 66, 3) := by decide +kernel
theorem dfo_4 : decode jdk_128_method_18_code 4 = .ok (.istore 8, 2) := by decide +kernel
theorem dfo_6 : decode jdk_128_method_18_code 6 = .ok (.iload 8, 2) := by decide +kernel
theorem dfo_8 : decode jdk_128_method_18_code 8 = .ok (.ifCond .ge 26, 3) := by decide +kernel
theorem dfo_11 : decode jdk_128_method_18_code 11 = .ok (.dload_n 0, 1) := by decide +kernel
theorem dfo_12 : decode jdk_128_method_18_code 12 = .ok (.dconst 0, 1) := by decide +kernel
theorem dfo_13 : decode jdk_128_method_18_code 13 = .ok (.dcmp .l, 1) := by decide +kernel
theorem dfo_14 : decode jdk_128_method_18_code 14 = .ok (.ifCond .ne 7, 3) := by decide +kernel
theorem dfo_21 : decode jdk_128_method_18_code 21 = .ok (.dload_n 0, 1) := by decide +kernel
theorem dfo_22 : decode jdk_128_method_18_code 22 = .ok (.dconst 0, 1) := by decide +kernel
theorem dfo_23 : decode jdk_128_method_18_code 23 = .ok (.dcmp .g, 1) := by decide +kernel
theorem dfo_24 : decode jdk_128_method_18_code 24 = .ok (.ifCond .ge 7, 3) := by decide +kernel
theorem dfo_31 : decode jdk_128_method_18_code 31 = .ok (.dload 4, 2) := by decide +kernel
theorem dfo_33 : decode jdk_128_method_18_code 33 = .ok (.dreturn, 1) := by decide +kernel
theorem dfo_34 : decode jdk_128_method_18_code 34 = .ok (.iload 8, 2) := by decide +kernel
theorem dfo_36 : decode jdk_128_method_18_code 36 = .ok (.bipush 52, 2) := by decide +kernel
theorem dfo_38 : decode jdk_128_method_18_code 38 = .ok (.if_icmp .lt 5, 3) := by decide +kernel
theorem dfo_43 : decode jdk_128_method_18_code 43 = .ok (.getstatic 70, 3) := by decide +kernel
theorem dfo_46 : decode jdk_128_method_18_code 46 = .ok (.ifCond .ne 23, 3) := by decide +kernel
theorem dfo_69 : decode jdk_128_method_18_code 69 = .ok (.dload_n 0, 1) := by decide +kernel
theorem dfo_70 : decode jdk_128_method_18_code 70 = .ok (.invokestatic 77, 3) := by decide +kernel
theorem dfo_73 : decode jdk_128_method_18_code 73 = .ok (.lstore 9, 2) := by decide +kernel
theorem dfo_75 : decode jdk_128_method_18_code 75 = .ok (.ldc2_w 85, 3) := by decide +kernel
theorem dfo_78 : decode jdk_128_method_18_code 78 = .ok (.iload 8, 2) := by decide +kernel
theorem dfo_80 : decode jdk_128_method_18_code 80 = .ok (.lshr, 1) := by decide +kernel
theorem dfo_81 : decode jdk_128_method_18_code 81 = .ok (.lstore 11, 2) := by decide +kernel
theorem dfo_83 : decode jdk_128_method_18_code 83 = .ok (.lload 11, 2) := by decide +kernel
theorem dfo_85 : decode jdk_128_method_18_code 85 = .ok (.lload 9, 2) := by decide +kernel
theorem dfo_87 : decode jdk_128_method_18_code 87 = .ok (.land, 1) := by decide +kernel
theorem dfo_88 : decode jdk_128_method_18_code 88 = .ok (.lconst 0, 1) := by decide +kernel
theorem dfo_89 : decode jdk_128_method_18_code 89 = .ok (.lcmp, 1) := by decide +kernel
theorem dfo_90 : decode jdk_128_method_18_code 90 = .ok (.ifCond .ne 5, 3) := by decide +kernel
theorem dfo_93 : decode jdk_128_method_18_code 93 = .ok (.dload_n 0, 1) := by decide +kernel
theorem dfo_94 : decode jdk_128_method_18_code 94 = .ok (.dreturn, 1) := by decide +kernel
theorem dfo_95 : decode jdk_128_method_18_code 95 = .ok (.lload 9, 2) := by decide +kernel
theorem dfo_97 : decode jdk_128_method_18_code 97 = .ok (.lload 11, 2) := by decide +kernel
theorem dfo_99 : decode jdk_128_method_18_code 99 = .ok (.ldc2_w 87, 3) := by decide +kernel
theorem dfo_102 : decode jdk_128_method_18_code 102 = .ok (.lxor, 1) := by decide +kernel
theorem dfo_103 : decode jdk_128_method_18_code 103 = .ok (.land, 1) := by decide +kernel
theorem dfo_104 : decode jdk_128_method_18_code 104 = .ok (.invokestatic 89, 3) := by decide +kernel
theorem dfo_107 : decode jdk_128_method_18_code 107 = .ok (.dstore 13, 2) := by decide +kernel
theorem dfo_109 : decode jdk_128_method_18_code 109 = .ok (.dload 6, 2) := by decide +kernel
theorem dfo_111 : decode jdk_128_method_18_code 111 = .ok (.dload_n 0, 1) := by decide +kernel
theorem dfo_112 : decode jdk_128_method_18_code 112 = .ok (.dmul, 1) := by decide +kernel
theorem dfo_113 : decode jdk_128_method_18_code 113 = .ok (.dconst 0, 1) := by decide +kernel
theorem dfo_114 : decode jdk_128_method_18_code 114 = .ok (.dcmp .l, 1) := by decide +kernel
theorem dfo_115 : decode jdk_128_method_18_code 115 = .ok (.ifCond .le 10, 3) := by decide +kernel
theorem dfo_125 : decode jdk_128_method_18_code 125 = .ok (.dload 13, 2) := by decide +kernel
theorem dfo_127 : decode jdk_128_method_18_code 127 = .ok (.dreturn, 1) := by decide +kernel
set_option maxRecDepth 65536 in
set_option maxHeartbeats 8000000 in
theorem own_foc1 (X : Stand p l e R s m args below meth c T locs cells slots) (hx : p.tables.exec = Jvm.exec) {Z : State} (hZ : Z.Warmed39 s.vm) {a0 : Array Value} (hw : ∀ d ∈ tables_1, d.before a0 Z = true) {vm : Vm} (hW : s.WarmedH vm) {B mid : List Frame} (hB : B = mid ++ below) (hroom : ∀ (xs : List Frame) (vm' : Vm) (vars : Nat) (u : State), xs.length ≤ 4 → stackWeight xs + vars ≤ 120 → u = own_V T vm' (xs ++ B) → e.platform.stackFull ((u.threads[u.cur]?).getD { frames := [] }) u.frames vars = false) {g : JFrame} {methg : Method} {cg : Code} {ig : Instr} (hmg : s.vm.method? g.method = some methg) (hcg : methg.code = some cg) (hdg : decode cg.code g.pc = .ok (ig, 3)) {mF : MethodId} {methF : Method} {cF : Code} (hnF : s.methodNamed? (⟨"java/lang/StrictMath", "floorOrCeil", "(DDDD)D"⟩ : MethodName) = some mF) (hmF : s.vm.method? mF = some methF) (hcF : methF.code = some cF) (hlF : methF.locks = false) (hrF : methF.sig.returnType = some .double) (hmlF : cF.maxLocals = 15) (hbyF : cF.code = jdk_128_method_18_code) {mG : MethodId} {methG : Method} {cG : Code} (hnG : s.methodNamed? (⟨"java/lang/Math", "getExponent", "(D)I"⟩ : MethodName) = some mG) (hmG : s.vm.method? mG = some methG) (hcG : methG.code = some cG) (hlG : methG.locks = false) (hrG : methG.sig.returnType = some .int) (hmlG : cG.maxLocals = 2) (hbyG : cG.code = jdk_29_method_92_code) (hgw : stackWeight [.java g] ≤ 30) {b : UInt64} (he : expOf b < 0) (hc1 : cmpValue (FP.dcmp b 0) .l = 1) (hc2 : cmpValue (FP.dcmp b 0) .g = 1) (S : Sta Z T.heap "java/lang/StrictMath" "$assertionsDisabled" "Z" (.int 1)) :
    ∃ vm', s.WarmedH vm' ∧ Steps p.tables e below (own_V T vm (.java (mkF mF 0 #[.val (.double b), .second, .val (.double 13830554455654793216), .second, .val (.double 0), .second, .val (.double 13830554455654793216), .second, .unset, .unset, .unset, .unset, .unset, .unset, .unset] []) :: .java g :: B)) (own_V T vm' (.java { g with pc := g.pc + 3, stack := .double 0 :: g.stack } :: B)) := by
  have hcur := own_cur X
  have hown : s.vm.findClass "java/lang/StrictMath" = some mF.cls := findClass_of_methodNamed hnF
  have A0 : At (own_V T vm (.java (mkF mF 0 #[.val (.double b), .second, .val (.double 13830554455654793216), .second, .val (.double 0), .second, .val (.double 13830554455654793216), .second, .unset, .unset, .unset, .unset, .unset, .unset, .unset] []) :: .java g :: B)) mF cF below := own_at X hW (mid := .java g :: mid) (by rw [hB]; rfl) (by decide +kernel) hnF hmF hcF
  have hsG : methG.isStatic = true := Cond.static_spec hnG hmG (mvT (args := args) hZ (hw _ (List.mem_of_getElem? (i := 60) rfl)))
  obtain ⟨kG, hkG, -⟩ := className_of_methodNamed hnG
  have hiG : kG.init = .initialized := Cond.initialized_spec (findClass_of_methodNamed hnG) hkG (mvT (args := args) hZ (hw _ (List.mem_of_getElem? (i := 49) rfl)))
  have hpG : methG.sig.parameters.length = 1 := by
    obtain ⟨z1, z2, z3, -, -, -, -, -, -, z9⟩ := Cond.code_spec (args := args) hnG (mvT (args := args) hZ (hw _ (List.mem_of_getElem? (i := 61) rfl)))
    cases hmG.symm.trans z3
    have z8 : parseMethodDescriptor "(D)I" = some { parameters := [.double], returnType := some .int } := by decide +kernel
    rw [← Option.some.inj (z8.symm.trans z9)]; rfl
  obtain ⟨vm1, hW1, st1⟩ := own_link A0 hx X.admits hW hown (mvT (args := args) hZ (hw _ (List.mem_of_getElem? (i := 59) rfl))) hnG hmG hsG hkG hiG (by decide) (g := (mkF mF 1 #[.val (.double b), .second, .val (.double 13830554455654793216), .second, .val (.double 0), .second, .val (.double 13830554455654793216), .second, .unset, .unset, .unset, .unset, .unset, .unset, .unset] [(.double b)])) rfl (argsL := [.double b]) (rest := []) (by rw [hpG]; rfl) rfl (hb hbyF dfo_1)
  have A1 : At (own_V T vm1 (.java (mkF mF 0 #[.val (.double b), .second, .val (.double 13830554455654793216), .second, .val (.double 0), .second, .val (.double 13830554455654793216), .second, .unset, .unset, .unset, .unset, .unset, .unset, .unset] []) :: .java g :: B)) mF cF below := A0.setVm (hW.alike.symm.trans hW1.alike)
  have hmG1 : vm1.method? mG = some methG := by rw [hW1.alike.method?]; exact hmG
  have hrm1 := hroom [.java (mkF mF 1 #[.val (.double b), .second, .val (.double 13830554455654793216), .second, .val (.double 0), .second, .val (.double 13830554455654793216), .second, .unset, .unset, .unset, .unset, .unset, .unset, .unset] []), .java g] vm1 cG.maxLocals (own_V T vm1 (.java (mkF mF 1 #[.val (.double b), .second, .val (.double 13830554455654793216), .second, .val (.double 0), .second, .val (.double 13830554455654793216), .second, .unset, .unset, .unset, .unset, .unset, .unset, .unset] []) :: .java g :: B)) (by simp) (by rw [hmlG, own_wcons]; show 11 + 15 + 2 * 0 + 0 + stackWeight [.java g] + 2 ≤ 120; omega) rfl
  obtain ⟨vm2, hW2, st2⟩ := own_gx X hx hZ hw hW1 (B := .java g :: B) (mid := .java g :: mid) (by rw [hB]; rfl) (fun xs vm' vars u q1 q2 q3 => hroom (xs ++ [.java g]) vm' vars u (by rw [List.length_append, List.length_singleton]; omega) (by rw [own_weight]; omega) (by rw [q3, List.append_assoc]; rfl)) (g := (mkF mF 1 #[.val (.double b), .second, .val (.double 13830554455654793216), .second, .val (.double 0), .second, .val (.double 13830554455654793216), .second, .unset, .unset, .unset, .unset, .unset, .unset, .unset] [])) hmF hcF (hb hbyF dfo_1) hnG hmG hcG hlG hrG hmlG hbyG (by rw [own_wcons]; show 11 + 15 + 2 * 0 + 0 + 0 ≤ 40; decide) b
  have A2 : At (own_V T vm2 (.java (mkF mF 0 #[.val (.double b), .second, .val (.double 13830554455654793216), .second, .val (.double 0), .second, .val (.double 13830554455654793216), .second, .unset, .unset, .unset, .unset, .unset, .unset, .unset] []) :: .java g :: B)) mF cF below := A0.setVm (hW.alike.symm.trans hW2.alike)
  refine ⟨vm2, hW2, ?_⟩
  have e0 : own_V T vm (.java (mkF mF 0 #[.val (.double b), .second, .val (.double 13830554455654793216), .second, .val (.double 0), .second, .val (.double 13830554455654793216), .second, .unset, .unset, .unset, .unset, .unset, .unset, .unset] []) :: .java g :: B) = (own_V T vm (.java (mkF mF 0 #[.val (.double b), .second, .val (.double 13830554455654793216), .second, .val (.double 0), .second, .val (.double 13830554455654793216), .second, .unset, .unset, .unset, .unset, .unset, .unset, .unset] []) :: .java g :: B)).setTop (mkF mF 0 #[.val (.double b), .second, .val (.double 13830554455654793216), .second, .val (.double 0), .second, .val (.double 13830554455654793216), .second, .unset, .unset, .unset, .unset, .unset, .unset, .unset] []) := (own_V_top hcur).symm
  have e9 : own_V T vm2 (.java { g with pc := g.pc + 3, stack := .double 0 :: g.stack } :: B) = (own_V T vm2 (.java (mkF mF 0 #[.val (.double b), .second, .val (.double 13830554455654793216), .second, .val (.double 0), .second, .val (.double 13830554455654793216), .second, .unset, .unset, .unset, .unset, .unset, .unset, .unset] []) :: .java g :: B)).setFrames (.java { g with pc := g.pc + 3, stack := .double 0 :: g.stack } :: B) := own_V_set.symm
  rw [e0, e9]
  show Steps p.tables e below ((own_V T vm (.java (mkF mF 0 #[.val (.double b), .second, .val (.double 13830554455654793216), .second, .val (.double 0), .second, .val (.double 13830554455654793216), .second, .unset, .unset, .unset, .unset, .unset, .unset, .unset] []) :: .java g :: B)).setTop (mkF mF 0 #[.val (.double b), .second, .val (.double 13830554455654793216), .second, .val (.double 0), .second, .val (.double 13830554455654793216), .second, .unset, .unset, .unset, .unset, .unset, .unset, .unset] [])) _
  refine XS.dloadN A0 hx rfl (hb hbyF dfo_0) rfl ?_
  show Steps p.tables e below ((own_V T vm (.java (mkF mF 0 #[.val (.double b), .second, .val (.double 13830554455654793216), .second, .val (.double 0), .second, .val (.double 13830554455654793216), .second, .unset, .unset, .unset, .unset, .unset, .unset, .unset] []) :: .java g :: B)).setTop (mkF mF 1 #[.val (.double b), .second, .val (.double 13830554455654793216), .second, .val (.double 0), .second, .val (.double 13830554455654793216), .second, .unset, .unset, .unset, .unset, .unset, .unset, .unset] [(.double b)])) _
  refine st1 _ fun acts => ?_
  rw [show (own_V T vm (.java (mkF mF 0 #[.val (.double b), .second, .val (.double 13830554455654793216), .second, .val (.double 0), .second, .val (.double 13830554455654793216), .second, .unset, .unset, .unset, .unset, .unset, .unset, .unset] []) :: .java g :: B)).setVm vm1 = own_V T vm1 (.java (mkF mF 0 #[.val (.double b), .second, .val (.double 13830554455654793216), .second, .val (.double 0), .second, .val (.double 13830554455654793216), .second, .unset, .unset, .unset, .unset, .unset, .unset, .unset] []) :: .java g :: B) from rfl, show ({ (mkF mF 1 #[.val (.double b), .second, .val (.double 13830554455654793216), .second, .val (.double 0), .second, .val (.double 13830554455654793216), .second, .unset, .unset, .unset, .unset, .unset, .unset, .unset] [(.double b)]) with stack := [] } : JFrame) = (mkF mF 1 #[.val (.double b), .second, .val (.double 13830554455654793216), .second, .val (.double 0), .second, .val (.double 13830554455654793216), .second, .unset, .unset, .unset, .unset, .unset, .unset, .unset] []) from rfl, own_enter hcur acts hmG1 hcG hlG (f' := (mkF mG 0 #[.val (.double b), .second] [])) (by rw [hmlG]; rfl) hrm1]
  refine st2.trans ?_
  rw [← own_V_top hcur (f := (mkF mF 0 #[.val (.double b), .second, .val (.double 13830554455654793216), .second, .val (.double 0), .second, .val (.double 13830554455654793216), .second, .unset, .unset, .unset, .unset, .unset, .unset, .unset] []))]
  show Steps p.tables e below ((own_V T vm2 (.java (mkF mF 0 #[.val (.double b), .second, .val (.double 13830554455654793216), .second, .val (.double 0), .second, .val (.double 13830554455654793216), .second, .unset, .unset, .unset, .unset, .unset, .unset, .unset] []) :: .java g :: B)).setTop (mkF mF 4 #[.val (.double b), .second, .val (.double 13830554455654793216), .second, .val (.double 0), .second, .val (.double 13830554455654793216), .second, .unset, .unset, .unset, .unset, .unset, .unset, .unset] [(.int (expOf b))])) _
  refine XS.istore A2 hx rfl (hb hbyF dfo_4) rfl rfl ?_
  show Steps p.tables e below ((own_V T vm2 (.java (mkF mF 0 #[.val (.double b), .second, .val (.double 13830554455654793216), .second, .val (.double 0), .second, .val (.double 13830554455654793216), .second, .unset, .unset, .unset, .unset, .unset, .unset, .unset] []) :: .java g :: B)).setTop (mkF mF 6 #[.val (.double b), .second, .val (.double 13830554455654793216), .second, .val (.double 0), .second, .val (.double 13830554455654793216), .second, .val (.int (expOf b)), .unset, .unset, .unset, .unset, .unset, .unset] [])) _
  refine XS.iload A2 hx rfl (hb hbyF dfo_6) rfl ?_
  show Steps p.tables e below ((own_V T vm2 (.java (mkF mF 0 #[.val (.double b), .second, .val (.double 13830554455654793216), .second, .val (.double 0), .second, .val (.double 13830554455654793216), .second, .unset, .unset, .unset, .unset, .unset, .unset, .unset] []) :: .java g :: B)).setTop (mkF mF 8 #[.val (.double b), .second, .val (.double 13830554455654793216), .second, .val (.double 0), .second, .val (.double 13830554455654793216), .second, .val (.int (expOf b)), .unset, .unset, .unset, .unset, .unset, .unset] [(.int (expOf b))])) _
  refine XS.ifNo A2 hx rfl (hb hbyF dfo_8) rfl (XT.i0_ge_f he) ?_
  show Steps p.tables e below ((own_V T vm2 (.java (mkF mF 0 #[.val (.double b), .second, .val (.double 13830554455654793216), .second, .val (.double 0), .second, .val (.double 13830554455654793216), .second, .unset, .unset, .unset, .unset, .unset, .unset, .unset] []) :: .java g :: B)).setTop (mkF mF 11 #[.val (.double b), .second, .val (.double 13830554455654793216), .second, .val (.double 0), .second, .val (.double 13830554455654793216), .second, .val (.int (expOf b)), .unset, .unset, .unset, .unset, .unset, .unset] [])) _
  refine XS.dloadN A2 hx rfl (hb hbyF dfo_11) rfl ?_
  show Steps p.tables e below ((own_V T vm2 (.java (mkF mF 0 #[.val (.double b), .second, .val (.double 13830554455654793216), .second, .val (.double 0), .second, .val (.double 13830554455654793216), .second, .unset, .unset, .unset, .unset, .unset, .unset, .unset] []) :: .java g :: B)).setTop (mkF mF 12 #[.val (.double b), .second, .val (.double 13830554455654793216), .second, .val (.double 0), .second, .val (.double 13830554455654793216), .second, .val (.int (expOf b)), .unset, .unset, .unset, .unset, .unset, .unset] [(.double b)])) _
  refine XS.dconst0 A2 hx rfl (hb hbyF dfo_12) rfl ?_
  show Steps p.tables e below ((own_V T vm2 (.java (mkF mF 0 #[.val (.double b), .second, .val (.double 13830554455654793216), .second, .val (.double 0), .second, .val (.double 13830554455654793216), .second, .unset, .unset, .unset, .unset, .unset, .unset, .unset] []) :: .java g :: B)).setTop (mkF mF 13 #[.val (.double b), .second, .val (.double 13830554455654793216), .second, .val (.double 0), .second, .val (.double 13830554455654793216), .second, .val (.int (expOf b)), .unset, .unset, .unset, .unset, .unset, .unset] [(.double 0), (.double b)])) _
  refine XS.dcmpS A2 hx rfl (hb hbyF dfo_13) rfl hc1 ?_
  show Steps p.tables e below ((own_V T vm2 (.java (mkF mF 0 #[.val (.double b), .second, .val (.double 13830554455654793216), .second, .val (.double 0), .second, .val (.double 13830554455654793216), .second, .unset, .unset, .unset, .unset, .unset, .unset, .unset] []) :: .java g :: B)).setTop (mkF mF 14 #[.val (.double b), .second, .val (.double 13830554455654793216), .second, .val (.double 0), .second, .val (.double 13830554455654793216), .second, .val (.int (expOf b)), .unset, .unset, .unset, .unset, .unset, .unset] [(.int 1)])) _
  refine XS.ifYes A2 hx rfl rfl (hb hbyF dfo_14) rfl (by decide) (show (0 : Int) ≤ ((14 : Nat) : Int) + (7) by decide) (show (((14 : Nat) : Int) + (7)).toNat = 21 by decide) ?_
  show Steps p.tables e below ((own_V T vm2 (.java (mkF mF 0 #[.val (.double b), .second, .val (.double 13830554455654793216), .second, .val (.double 0), .second, .val (.double 13830554455654793216), .second, .unset, .unset, .unset, .unset, .unset, .unset, .unset] []) :: .java g :: B)).setTop (mkF mF 21 #[.val (.double b), .second, .val (.double 13830554455654793216), .second, .val (.double 0), .second, .val (.double 13830554455654793216), .second, .val (.int (expOf b)), .unset, .unset, .unset, .unset, .unset, .unset] [])) _
  refine XS.dloadN A2 hx rfl (hb hbyF dfo_21) rfl ?_
  show Steps p.tables e below ((own_V T vm2 (.java (mkF mF 0 #[.val (.double b), .second, .val (.double 13830554455654793216), .second, .val (.double 0), .second, .val (.double 13830554455654793216), .second, .unset, .unset, .unset, .unset, .unset, .unset, .unset] []) :: .java g :: B)).setTop (mkF mF 22 #[.val (.double b), .second, .val (.double 13830554455654793216), .second, .val (.double 0), .second, .val (.double 13830554455654793216), .second, .val (.int (expOf b)), .unset, .unset, .unset, .unset, .unset, .unset] [(.double b)])) _
  refine XS.dconst0 A2 hx rfl (hb hbyF dfo_22) rfl ?_
  show Steps p.tables e below ((own_V T vm2 (.java (mkF mF 0 #[.val (.double b), .second, .val (.double 13830554455654793216), .second, .val (.double 0), .second, .val (.double 13830554455654793216), .second, .unset, .unset, .unset, .unset, .unset, .unset, .unset] []) :: .java g :: B)).setTop (mkF mF 23 #[.val (.double b), .second, .val (.double 13830554455654793216), .second, .val (.double 0), .second, .val (.double 13830554455654793216), .second, .val (.int (expOf b)), .unset, .unset, .unset, .unset, .unset, .unset] [(.double 0), (.double b)])) _
  refine XS.dcmpS A2 hx rfl (hb hbyF dfo_23) rfl hc2 ?_
  show Steps p.tables e below ((own_V T vm2 (.java (mkF mF 0 #[.val (.double b), .second, .val (.double 13830554455654793216), .second, .val (.double 0), .second, .val (.double 13830554455654793216), .second, .unset, .unset, .unset, .unset, .unset, .unset, .unset] []) :: .java g :: B)).setTop (mkF mF 24 #[.val (.double b), .second, .val (.double 13830554455654793216), .second, .val (.double 0), .second, .val (.double 13830554455654793216), .second, .val (.int (expOf b)), .unset, .unset, .unset, .unset, .unset, .unset] [(.int 1)])) _
  refine XS.ifYes A2 hx rfl rfl (hb hbyF dfo_24) rfl (by decide) (show (0 : Int) ≤ ((24 : Nat) : Int) + (7) by decide) (show (((24 : Nat) : Int) + (7)).toNat = 31 by decide) ?_
  show Steps p.tables e below ((own_V T vm2 (.java (mkF mF 0 #[.val (.double b), .second, .val (.double 13830554455654793216), .second, .val (.double 0), .second, .val (.double 13830554455654793216), .second, .unset, .unset, .unset, .unset, .unset, .unset, .unset] []) :: .java g :: B)).setTop (mkF mF 31 #[.val (.double b), .second, .val (.double 13830554455654793216), .second, .val (.double 0), .second, .val (.double 13830554455654793216), .second, .val (.int (expOf b)), .unset, .unset, .unset, .unset, .unset, .unset] [])) _
  refine XS.dload A2 hx rfl (hb hbyF dfo_31) rfl ?_
  show Steps p.tables e below ((own_V T vm2 (.java (mkF mF 0 #[.val (.double b), .second, .val (.double 13830554455654793216), .second, .val (.double 0), .second, .val (.double 13830554455654793216), .second, .unset, .unset, .unset, .unset, .unset, .unset, .unset] []) :: .java g :: B)).setTop (mkF mF 33 #[.val (.double b), .second, .val (.double 13830554455654793216), .second, .val (.double 0), .second, .val (.double 13830554455654793216), .second, .val (.int (expOf b)), .unset, .unset, .unset, .unset, .unset, .unset] [(.double 0)])) _
  exact own_ret A2 hx (by show vm2.method? mF = _; rw [hW2.alike.method?]; exact hmF) hlF hrF (Or.inr ⟨rfl, rfl, _, rfl⟩) (hb hbyF dfo_33) (own_V_frames hcur) (own_handJ (own_codeV hW2 hmg hcg) hdg)
set_option maxRecDepth 65536 in
set_option maxHeartbeats 8000000 in
theorem own_foc2 (X : Stand p l e R s m args below meth c T locs cells slots) (hx : p.tables.exec = Jvm.exec) {Z : State} (hZ : Z.Warmed39 s.vm) {a0 : Array Value} (hw : ∀ d ∈ tables_1, d.before a0 Z = true) {vm : Vm} (hW : s.WarmedH vm) {B mid : List Frame} (hB : B = mid ++ below) (hroom : ∀ (xs : List Frame) (vm' : Vm) (vars : Nat) (u : State), xs.length ≤ 4 → stackWeight xs + vars ≤ 120 → u = own_V T vm' (xs ++ B) → e.platform.stackFull ((u.threads[u.cur]?).getD { frames := [] }) u.frames vars = false) {g : JFrame} {methg : Method} {cg : Code} {ig : Instr} (hmg : s.vm.method? g.method = some methg) (hcg : methg.code = some cg) (hdg : decode cg.code g.pc = .ok (ig, 3)) {mF : MethodId} {methF : Method} {cF : Code} (hnF : s.methodNamed? (⟨"java/lang/StrictMath", "floorOrCeil", "(DDDD)D"⟩ : MethodName) = some mF) (hmF : s.vm.method? mF = some methF) (hcF : methF.code = some cF) (hlF : methF.locks = false) (hrF : methF.sig.returnType = some .double) (hmlF : cF.maxLocals = 15) (hbyF : cF.code = jdk_128_method_18_code) {mG : MethodId} {methG : Method} {cG : Code} (hnG : s.methodNamed? (⟨"java/lang/Math", "getExponent", "(D)I"⟩ : MethodName) = some mG) (hmG : s.vm.method? mG = some methG) (hcG : methG.code = some cG) (hlG : methG.locks = false) (hrG : methG.sig.returnType = some .int) (hmlG : cG.maxLocals = 2) (hbyG : cG.code = jdk_29_method_92_code) (hgw : stackWeight [.java g] ≤ 30) {b : UInt64} (he : ¬ expOf b < 0) (he2 : expOf b < 52) (hz : maskOf b &&& b.toInt64 = 0) (S : Sta Z T.heap "java/lang/StrictMath" "$assertionsDisabled" "Z" (.int 1)) :
    ∃ vm', s.WarmedH vm' ∧ Steps p.tables e below (own_V T vm (.java (mkF mF 0 #[.val (.double b), .second, .val (.double 13830554455654793216), .second, .val (.double 0), .second, .val (.double 13830554455654793216), .second, .unset, .unset, .unset, .unset, .unset, .unset, .unset] []) :: .java g :: B)) (own_V T vm' (.java { g with pc := g.pc + 3, stack := .double b :: g.stack } :: B)) := by
  have hcur := own_cur X
  have hown : s.vm.findClass "java/lang/StrictMath" = some mF.cls := findClass_of_methodNamed hnF
  have A0 : At (own_V T vm (.java (mkF mF 0 #[.val (.double b), .second, .val (.double 13830554455654793216), .second, .val (.double 0), .second, .val (.double 13830554455654793216), .second, .unset, .unset, .unset, .unset, .unset, .unset, .unset] []) :: .java g :: B)) mF cF below := own_at X hW (mid := .java g :: mid) (by rw [hB]; rfl) (by decide +kernel) hnF hmF hcF
  have hsG : methG.isStatic = true := Cond.static_spec hnG hmG (mvT (args := args) hZ (hw _ (List.mem_of_getElem? (i := 60) rfl)))
  obtain ⟨kG, hkG, -⟩ := className_of_methodNamed hnG
  have hiG : kG.init = .initialized := Cond.initialized_spec (findClass_of_methodNamed hnG) hkG (mvT (args := args) hZ (hw _ (List.mem_of_getElem? (i := 49) rfl)))
  have hpG : methG.sig.parameters.length = 1 := by
    obtain ⟨z1, z2, z3, -, -, -, -, -, -, z9⟩ := Cond.code_spec (args := args) hnG (mvT (args := args) hZ (hw _ (List.mem_of_getElem? (i := 61) rfl)))
    cases hmG.symm.trans z3
    have z8 : parseMethodDescriptor "(D)I" = some { parameters := [.double], returnType := some .int } := by decide +kernel
    rw [← Option.some.inj (z8.symm.trans z9)]; rfl
  obtain ⟨vm1, hW1, st1⟩ := own_link A0 hx X.admits hW hown (mvT (args := args) hZ (hw _ (List.mem_of_getElem? (i := 59) rfl))) hnG hmG hsG hkG hiG (by decide) (g := (mkF mF 1 #[.val (.double b), .second, .val (.double 13830554455654793216), .second, .val (.double 0), .second, .val (.double 13830554455654793216), .second, .unset, .unset, .unset, .unset, .unset, .unset, .unset] [(.double b)])) rfl (argsL := [.double b]) (rest := []) (by rw [hpG]; rfl) rfl (hb hbyF dfo_1)
  have A1 : At (own_V T vm1 (.java (mkF mF 0 #[.val (.double b), .second, .val (.double 13830554455654793216), .second, .val (.double 0), .second, .val (.double 13830554455654793216), .second, .unset, .unset, .unset, .unset, .unset, .unset, .unset] []) :: .java g :: B)) mF cF below := A0.setVm (hW.alike.symm.trans hW1.alike)
  have hmG1 : vm1.method? mG = some methG := by rw [hW1.alike.method?]; exact hmG
  have hrm1 := hroom [.java (mkF mF 1 #[.val (.double b), .second, .val (.double 13830554455654793216), .second, .val (.double 0), .second, .val (.double 13830554455654793216), .second, .unset, .unset, .unset, .unset, .unset, .unset, .unset] []), .java g] vm1 cG.maxLocals (own_V T vm1 (.java (mkF mF 1 #[.val (.double b), .second, .val (.double 13830554455654793216), .second, .val (.double 0), .second, .val (.double 13830554455654793216), .second, .unset, .unset, .unset, .unset, .unset, .unset, .unset] []) :: .java g :: B)) (by simp) (by rw [hmlG, own_wcons]; show 11 + 15 + 2 * 0 + 0 + stackWeight [.java g] + 2 ≤ 120; omega) rfl
  obtain ⟨vm2, hW2, st2⟩ := own_gx X hx hZ hw hW1 (B := .java g :: B) (mid := .java g :: mid) (by rw [hB]; rfl) (fun xs vm' vars u q1 q2 q3 => hroom (xs ++ [.java g]) vm' vars u (by rw [List.length_append, List.length_singleton]; omega) (by rw [own_weight]; omega) (by rw [q3, List.append_assoc]; rfl)) (g := (mkF mF 1 #[.val (.double b), .second, .val (.double 13830554455654793216), .second, .val (.double 0), .second, .val (.double 13830554455654793216), .second, .unset, .unset, .unset, .unset, .unset, .unset, .unset] [])) hmF hcF (hb hbyF dfo_1) hnG hmG hcG hlG hrG hmlG hbyG (by rw [own_wcons]; show 11 + 15 + 2 * 0 + 0 + 0 ≤ 40; decide) b
  have A2 : At (own_V T vm2 (.java (mkF mF 0 #[.val (.double b), .second, .val (.double 13830554455654793216), .second, .val (.double 0), .second, .val (.double 13830554455654793216), .second, .unset, .unset, .unset, .unset, .unset, .unset, .unset] []) :: .java g :: B)) mF cF below := A0.setVm (hW.alike.symm.trans hW2.alike)
  obtain ⟨vm3, hW3, st3⟩ := own_getS A2 hx X.admits hW2 hZ hown (mvT (args := args) hZ (hw _ (List.mem_of_getElem? (i := 79) rfl))) (show Sta Z (own_V T vm2 _).heap _ _ _ _ from S) (g := (mkF mF 43 #[.val (.double b), .second, .val (.double 13830554455654793216), .second, .val (.double 0), .second, .val (.double 13830554455654793216), .second, .val (.int (expOf b)), .unset, .unset, .unset, .unset, .unset, .unset] [])) rfl (hb hbyF dfo_43)
  have A3 : At (own_V T vm3 (.java (mkF mF 0 #[.val (.double b), .second, .val (.double 13830554455654793216), .second, .val (.double 0), .second, .val (.double 13830554455654793216), .second, .unset, .unset, .unset, .unset, .unset, .unset, .unset] []) :: .java g :: B)) mF cF below := A0.setVm (hW.alike.symm.trans hW3.alike)
  obtain ⟨r, kS, methS, hnS, hmS, hkS, N⟩ := NativeOf.of_static (args := args) (mvT (args := args) hZ (hw _ (List.mem_of_getElem? (i := 65) rfl))) (mvT (args := args) hZ (hw _ (List.mem_of_getElem? (i := 63) rfl))) (ps := [.double]) (ret := some .long) (by decide +kernel)
  have hinitS : kS.init = .initialized := Cond.initialized_spec (findClass_of_methodNamed hnS) hkS (mvT (args := args) hZ (hw _ (List.mem_of_getElem? (i := 64) rfl)))
  obtain ⟨vm4, hW4, st4⟩ := own_link A3 hx X.admits hW3 hown (mvT (args := args) hZ (hw _ (List.mem_of_getElem? (i := 80) rfl))) hnS hmS N.static hkS hinitS (by decide) (g := (mkF mF 70 #[.val (.double b), .second, .val (.double 13830554455654793216), .second, .val (.double 0), .second, .val (.double 13830554455654793216), .second, .val (.int (expOf b)), .unset, .unset, .unset, .unset, .unset, .unset] [(.double b)])) rfl (argsL := [.double b]) (rest := []) (by rw [N.sig]; rfl) rfl (hb hbyF dfo_70)
  obtain ⟨kS', N'⟩ := N.alike hW4.alike
  have A4 : At (own_V T vm4 (.java (mkF mF 0 #[.val (.double b), .second, .val (.double 13830554455654793216), .second, .val (.double 0), .second, .val (.double 13830554455654793216), .second, .unset, .unset, .unset, .unset, .unset, .unset, .unset] []) :: .java g :: B)) mF cF below := A0.setVm (hW.alike.symm.trans hW4.alike)
  have hr4 := hroom [.java (mkF mF 70 #[.val (.double b), .second, .val (.double 13830554455654793216), .second, .val (.double 0), .second, .val (.double 13830554455654793216), .second, .val (.int (expOf b)), .unset, .unset, .unset, .unset, .unset, .unset] []), .java g] vm4 (nativeFrameWords "java/lang/Double" "doubleToRawLongBits" 2) ((own_V T vm4 (.java (mkF mF 0 #[.val (.double b), .second, .val (.double 13830554455654793216), .second, .val (.double 0), .second, .val (.double 13830554455654793216), .second, .unset, .unset, .unset, .unset, .unset, .unset, .unset] []) :: .java g :: B)).setTop (mkF mF 70 #[.val (.double b), .second, .val (.double 13830554455654793216), .second, .val (.double 0), .second, .val (.double 13830554455654793216), .second, .val (.int (expOf b)), .unset, .unset, .unset, .unset, .unset, .unset] [])) (by simp) (by rw [own_n4, own_wcons]; show 11 + 15 + 2 * 0 + 0 + stackWeight [.java g] + 4 ≤ 120; omega) (own_V_top hcur)
  refine ⟨vm4, hW4, ?_⟩
  have e0 : own_V T vm (.java (mkF mF 0 #[.val (.double b), .second, .val (.double 13830554455654793216), .second, .val (.double 0), .second, .val (.double 13830554455654793216), .second, .unset, .unset, .unset, .unset, .unset, .unset, .unset] []) :: .java g :: B) = (own_V T vm (.java (mkF mF 0 #[.val (.double b), .second, .val (.double 13830554455654793216), .second, .val (.double 0), .second, .val (.double 13830554455654793216), .second, .unset, .unset, .unset, .unset, .unset, .unset, .unset] []) :: .java g :: B)).setTop (mkF mF 0 #[.val (.double b), .second, .val (.double 13830554455654793216), .second, .val (.double 0), .second, .val (.double 13830554455654793216), .second, .unset, .unset, .unset, .unset, .unset, .unset, .unset] []) := (own_V_top hcur).symm
  have e9 : own_V T vm4 (.java { g with pc := g.pc + 3, stack := .double b :: g.stack } :: B) = (own_V T vm4 (.java (mkF mF 0 #[.val (.double b), .second, .val (.double 13830554455654793216), .second, .val (.double 0), .second, .val (.double 13830554455654793216), .second, .unset, .unset, .unset, .unset, .unset, .unset, .unset] []) :: .java g :: B)).setFrames (.java { g with pc := g.pc + 3, stack := .double b :: g.stack } :: B) := own_V_set.symm
  rw [e0, e9]
  show Steps p.tables e below ((own_V T vm (.java (mkF mF 0 #[.val (.double b), .second, .val (.double 13830554455654793216), .second, .val (.double 0), .second, .val (.double 13830554455654793216), .second, .unset, .unset, .unset, .unset, .unset, .unset, .unset] []) :: .java g :: B)).setTop (mkF mF 0 #[.val (.double b), .second, .val (.double 13830554455654793216), .second, .val (.double 0), .second, .val (.double 13830554455654793216), .second, .unset, .unset, .unset, .unset, .unset, .unset, .unset] [])) _
  refine XS.dloadN A0 hx rfl (hb hbyF dfo_0) rfl ?_
  show Steps p.tables e below ((own_V T vm (.java (mkF mF 0 #[.val (.double b), .second, .val (.double 13830554455654793216), .second, .val (.double 0), .second, .val (.double 13830554455654793216), .second, .unset, .unset, .unset, .unset, .unset, .unset, .unset] []) :: .java g :: B)).setTop (mkF mF 1 #[.val (.double b), .second, .val (.double 13830554455654793216), .second, .val (.double 0), .second, .val (.double 13830554455654793216), .second, .unset, .unset, .unset, .unset, .unset, .unset, .unset] [(.double b)])) _
  refine st1 _ fun acts => ?_
  rw [show (own_V T vm (.java (mkF mF 0 #[.val (.double b), .second, .val (.double 13830554455654793216), .second, .val (.double 0), .second, .val (.double 13830554455654793216), .second, .unset, .unset, .unset, .unset, .unset, .unset, .unset] []) :: .java g :: B)).setVm vm1 = own_V T vm1 (.java (mkF mF 0 #[.val (.double b), .second, .val (.double 13830554455654793216), .second, .val (.double 0), .second, .val (.double 13830554455654793216), .second, .unset, .unset, .unset, .unset, .unset, .unset, .unset] []) :: .java g :: B) from rfl, show ({ (mkF mF 1 #[.val (.double b), .second, .val (.double 13830554455654793216), .second, .val (.double 0), .second, .val (.double 13830554455654793216), .second, .unset, .unset, .unset, .unset, .unset, .unset, .unset] [(.double b)]) with stack := [] } : JFrame) = (mkF mF 1 #[.val (.double b), .second, .val (.double 13830554455654793216), .second, .val (.double 0), .second, .val (.double 13830554455654793216), .second, .unset, .unset, .unset, .unset, .unset, .unset, .unset] []) from rfl, own_enter hcur acts hmG1 hcG hlG (f' := (mkF mG 0 #[.val (.double b), .second] [])) (by rw [hmlG]; rfl) hrm1]
  refine st2.trans ?_
  rw [← own_V_top hcur (f := (mkF mF 0 #[.val (.double b), .second, .val (.double 13830554455654793216), .second, .val (.double 0), .second, .val (.double 13830554455654793216), .second, .unset, .unset, .unset, .unset, .unset, .unset, .unset] []))]
  show Steps p.tables e below ((own_V T vm2 (.java (mkF mF 0 #[.val (.double b), .second, .val (.double 13830554455654793216), .second, .val (.double 0), .second, .val (.double 13830554455654793216), .second, .unset, .unset, .unset, .unset, .unset, .unset, .unset] []) :: .java g :: B)).setTop (mkF mF 4 #[.val (.double b), .second, .val (.double 13830554455654793216), .second, .val (.double 0), .second, .val (.double 13830554455654793216), .second, .unset, .unset, .unset, .unset, .unset, .unset, .unset] [(.int (expOf b))])) _
  refine XS.istore A2 hx rfl (hb hbyF dfo_4) rfl rfl ?_
  show Steps p.tables e below ((own_V T vm2 (.java (mkF mF 0 #[.val (.double b), .second, .val (.double 13830554455654793216), .second, .val (.double 0), .second, .val (.double 13830554455654793216), .second, .unset, .unset, .unset, .unset, .unset, .unset, .unset] []) :: .java g :: B)).setTop (mkF mF 6 #[.val (.double b), .second, .val (.double 13830554455654793216), .second, .val (.double 0), .second, .val (.double 13830554455654793216), .second, .val (.int (expOf b)), .unset, .unset, .unset, .unset, .unset, .unset] [])) _
  refine XS.iload A2 hx rfl (hb hbyF dfo_6) rfl ?_
  show Steps p.tables e below ((own_V T vm2 (.java (mkF mF 0 #[.val (.double b), .second, .val (.double 13830554455654793216), .second, .val (.double 0), .second, .val (.double 13830554455654793216), .second, .unset, .unset, .unset, .unset, .unset, .unset, .unset] []) :: .java g :: B)).setTop (mkF mF 8 #[.val (.double b), .second, .val (.double 13830554455654793216), .second, .val (.double 0), .second, .val (.double 13830554455654793216), .second, .val (.int (expOf b)), .unset, .unset, .unset, .unset, .unset, .unset] [(.int (expOf b))])) _
  refine XS.ifYes A2 hx rfl rfl (hb hbyF dfo_8) rfl (XT.i0_ge_t he) (show (0 : Int) ≤ ((8 : Nat) : Int) + (26) by decide) (show (((8 : Nat) : Int) + (26)).toNat = 34 by decide) ?_
  show Steps p.tables e below ((own_V T vm2 (.java (mkF mF 0 #[.val (.double b), .second, .val (.double 13830554455654793216), .second, .val (.double 0), .second, .val (.double 13830554455654793216), .second, .unset, .unset, .unset, .unset, .unset, .unset, .unset] []) :: .java g :: B)).setTop (mkF mF 34 #[.val (.double b), .second, .val (.double 13830554455654793216), .second, .val (.double 0), .second, .val (.double 13830554455654793216), .second, .val (.int (expOf b)), .unset, .unset, .unset, .unset, .unset, .unset] [])) _
  refine XS.iload A2 hx rfl (hb hbyF dfo_34) rfl ?_
  show Steps p.tables e below ((own_V T vm2 (.java (mkF mF 0 #[.val (.double b), .second, .val (.double 13830554455654793216), .second, .val (.double 0), .second, .val (.double 13830554455654793216), .second, .unset, .unset, .unset, .unset, .unset, .unset, .unset] []) :: .java g :: B)).setTop (mkF mF 36 #[.val (.double b), .second, .val (.double 13830554455654793216), .second, .val (.double 0), .second, .val (.double 13830554455654793216), .second, .val (.int (expOf b)), .unset, .unset, .unset, .unset, .unset, .unset] [(.int (expOf b))])) _
  refine XT.bipushV A2 hx rfl 52 (hb hbyF dfo_36) (by decide) ?_
  show Steps p.tables e below ((own_V T vm2 (.java (mkF mF 0 #[.val (.double b), .second, .val (.double 13830554455654793216), .second, .val (.double 0), .second, .val (.double 13830554455654793216), .second, .unset, .unset, .unset, .unset, .unset, .unset, .unset] []) :: .java g :: B)).setTop (mkF mF 38 #[.val (.double b), .second, .val (.double 13830554455654793216), .second, .val (.double 0), .second, .val (.double 13830554455654793216), .second, .val (.int (expOf b)), .unset, .unset, .unset, .unset, .unset, .unset] [(.int 52), (.int (expOf b))])) _
  refine XS.icmpYes A2 hx rfl rfl (hb hbyF dfo_38) rfl (XT.ii_lt_t he2) (show (0 : Int) ≤ ((38 : Nat) : Int) + (5) by decide) (show (((38 : Nat) : Int) + (5)).toNat = 43 by decide) ?_
  show Steps p.tables e below ((own_V T vm2 (.java (mkF mF 0 #[.val (.double b), .second, .val (.double 13830554455654793216), .second, .val (.double 0), .second, .val (.double 13830554455654793216), .second, .unset, .unset, .unset, .unset, .unset, .unset, .unset] []) :: .java g :: B)).setTop (mkF mF 43 #[.val (.double b), .second, .val (.double 13830554455654793216), .second, .val (.double 0), .second, .val (.double 13830554455654793216), .second, .val (.int (expOf b)), .unset, .unset, .unset, .unset, .unset, .unset] [])) _
  refine st3 _ ?_
  show Steps p.tables e below ((own_V T vm3 (.java (mkF mF 0 #[.val (.double b), .second, .val (.double 13830554455654793216), .second, .val (.double 0), .second, .val (.double 13830554455654793216), .second, .unset, .unset, .unset, .unset, .unset, .unset, .unset] []) :: .java g :: B)).setTop (mkF mF 46 #[.val (.double b), .second, .val (.double 13830554455654793216), .second, .val (.double 0), .second, .val (.double 13830554455654793216), .second, .val (.int (expOf b)), .unset, .unset, .unset, .unset, .unset, .unset] [(.int 1)])) _
  refine XS.ifYes A3 hx rfl rfl (hb hbyF dfo_46) rfl (by decide) (show (0 : Int) ≤ ((46 : Nat) : Int) + (23) by decide) (show (((46 : Nat) : Int) + (23)).toNat = 69 by decide) ?_
  show Steps p.tables e below ((own_V T vm3 (.java (mkF mF 0 #[.val (.double b), .second, .val (.double 13830554455654793216), .second, .val (.double 0), .second, .val (.double 13830554455654793216), .second, .unset, .unset, .unset, .unset, .unset, .unset, .unset] []) :: .java g :: B)).setTop (mkF mF 69 #[.val (.double b), .second, .val (.double 13830554455654793216), .second, .val (.double 0), .second, .val (.double 13830554455654793216), .second, .val (.int (expOf b)), .unset, .unset, .unset, .unset, .unset, .unset] [])) _
  refine XS.dloadN A3 hx rfl (hb hbyF dfo_69) rfl ?_
  show Steps p.tables e below ((own_V T vm3 (.java (mkF mF 0 #[.val (.double b), .second, .val (.double 13830554455654793216), .second, .val (.double 0), .second, .val (.double 13830554455654793216), .second, .unset, .unset, .unset, .unset, .unset, .unset, .unset] []) :: .java g :: B)).setTop (mkF mF 70 #[.val (.double b), .second, .val (.double 13830554455654793216), .second, .val (.double 0), .second, .val (.double 13830554455654793216), .second, .val (.int (expOf b)), .unset, .unset, .unset, .unset, .unset, .unset] [(.double b)])) _
  refine st4 _ fun acts => ?_
  rw [show (own_V T vm3 (.java (mkF mF 0 #[.val (.double b), .second, .val (.double 13830554455654793216), .second, .val (.double 0), .second, .val (.double 13830554455654793216), .second, .unset, .unset, .unset, .unset, .unset, .unset, .unset] []) :: .java g :: B)).setVm vm4 = own_V T vm4 (.java (mkF mF 0 #[.val (.double b), .second, .val (.double 13830554455654793216), .second, .val (.double 0), .second, .val (.double 13830554455654793216), .second, .unset, .unset, .unset, .unset, .unset, .unset, .unset] []) :: .java g :: B) from rfl]
  refine Steps.doubleToRawLongBitsOf (g := (mkF mF 70 #[.val (.double b), .second, .val (.double 13830554455654793216), .second, .val (.double 0), .second, .val (.double 13830554455654793216), .second, .val (.int (expOf b)), .unset, .unset, .unset, .unset, .unset, .unset] [])) (ig := .invokestatic 77) (len := 3) p A4 acts N' b hr4 (hb hbyF dfo_70) ?_
  show Steps p.tables e below ((own_V T vm4 (.java (mkF mF 0 #[.val (.double b), .second, .val (.double 13830554455654793216), .second, .val (.double 0), .second, .val (.double 13830554455654793216), .second, .unset, .unset, .unset, .unset, .unset, .unset, .unset] []) :: .java g :: B)).setTop (mkF mF 73 #[.val (.double b), .second, .val (.double 13830554455654793216), .second, .val (.double 0), .second, .val (.double 13830554455654793216), .second, .val (.int (expOf b)), .unset, .unset, .unset, .unset, .unset, .unset] [(.long b.toInt64)])) _
  refine XT.lstore A4 hx rfl (hb hbyF dfo_73) rfl rfl ?_
  show Steps p.tables e below ((own_V T vm4 (.java (mkF mF 0 #[.val (.double b), .second, .val (.double 13830554455654793216), .second, .val (.double 0), .second, .val (.double 13830554455654793216), .second, .unset, .unset, .unset, .unset, .unset, .unset, .unset] []) :: .java g :: B)).setTop (mkF mF 75 #[.val (.double b), .second, .val (.double 13830554455654793216), .second, .val (.double 0), .second, .val (.double 13830554455654793216), .second, .val (.int (expOf b)), .val (.long b.toInt64), .second, .unset, .unset, .unset, .unset] [])) _
  refine own_ldcJ (v := 4503599627370495) (own := "java/lang/StrictMath") (index := 85) (g := (mkF mF 75 #[.val (.double b), .second, .val (.double 13830554455654793216), .second, .val (.double 0), .second, .val (.double 13830554455654793216), .second, .val (.int (expOf b)), .val (.long b.toInt64), .second, .unset, .unset, .unset, .unset] [])) A4 hx hW4 hown (mvT (args := args) hZ (hw _ (List.mem_of_getElem? (i := 81) rfl))) rfl (hb hbyF dfo_75) ?_
  show Steps p.tables e below ((own_V T vm4 (.java (mkF mF 0 #[.val (.double b), .second, .val (.double 13830554455654793216), .second, .val (.double 0), .second, .val (.double 13830554455654793216), .second, .unset, .unset, .unset, .unset, .unset, .unset, .unset] []) :: .java g :: B)).setTop (mkF mF 78 #[.val (.double b), .second, .val (.double 13830554455654793216), .second, .val (.double 0), .second, .val (.double 13830554455654793216), .second, .val (.int (expOf b)), .val (.long b.toInt64), .second, .unset, .unset, .unset, .unset] [(.long 4503599627370495)])) _
  refine XS.iload A4 hx rfl (hb hbyF dfo_78) rfl ?_
  show Steps p.tables e below ((own_V T vm4 (.java (mkF mF 0 #[.val (.double b), .second, .val (.double 13830554455654793216), .second, .val (.double 0), .second, .val (.double 13830554455654793216), .second, .unset, .unset, .unset, .unset, .unset, .unset, .unset] []) :: .java g :: B)).setTop (mkF mF 80 #[.val (.double b), .second, .val (.double 13830554455654793216), .second, .val (.double 0), .second, .val (.double 13830554455654793216), .second, .val (.int (expOf b)), .val (.long b.toInt64), .second, .unset, .unset, .unset, .unset] [(.int (expOf b)), (.long 4503599627370495)])) _
  refine XT.lshr A4 hx rfl (hb hbyF dfo_80) rfl ?_
  show Steps p.tables e below ((own_V T vm4 (.java (mkF mF 0 #[.val (.double b), .second, .val (.double 13830554455654793216), .second, .val (.double 0), .second, .val (.double 13830554455654793216), .second, .unset, .unset, .unset, .unset, .unset, .unset, .unset] []) :: .java g :: B)).setTop (mkF mF 81 #[.val (.double b), .second, .val (.double 13830554455654793216), .second, .val (.double 0), .second, .val (.double 13830554455654793216), .second, .val (.int (expOf b)), .val (.long b.toInt64), .second, .unset, .unset, .unset, .unset] [(.long (maskOf b))])) _
  refine XT.lstore A4 hx rfl (hb hbyF dfo_81) rfl rfl ?_
  show Steps p.tables e below ((own_V T vm4 (.java (mkF mF 0 #[.val (.double b), .second, .val (.double 13830554455654793216), .second, .val (.double 0), .second, .val (.double 13830554455654793216), .second, .unset, .unset, .unset, .unset, .unset, .unset, .unset] []) :: .java g :: B)).setTop (mkF mF 83 #[.val (.double b), .second, .val (.double 13830554455654793216), .second, .val (.double 0), .second, .val (.double 13830554455654793216), .second, .val (.int (expOf b)), .val (.long b.toInt64), .second, .val (.long (maskOf b)), .second, .unset, .unset] [])) _
  refine XT.lload A4 hx rfl (hb hbyF dfo_83) rfl ?_
  show Steps p.tables e below ((own_V T vm4 (.java (mkF mF 0 #[.val (.double b), .second, .val (.double 13830554455654793216), .second, .val (.double 0), .second, .val (.double 13830554455654793216), .second, .unset, .unset, .unset, .unset, .unset, .unset, .unset] []) :: .java g :: B)).setTop (mkF mF 85 #[.val (.double b), .second, .val (.double 13830554455654793216), .second, .val (.double 0), .second, .val (.double 13830554455654793216), .second, .val (.int (expOf b)), .val (.long b.toInt64), .second, .val (.long (maskOf b)), .second, .unset, .unset] [(.long (maskOf b))])) _
  refine XT.lload A4 hx rfl (hb hbyF dfo_85) rfl ?_
  show Steps p.tables e below ((own_V T vm4 (.java (mkF mF 0 #[.val (.double b), .second, .val (.double 13830554455654793216), .second, .val (.double 0), .second, .val (.double 13830554455654793216), .second, .unset, .unset, .unset, .unset, .unset, .unset, .unset] []) :: .java g :: B)).setTop (mkF mF 87 #[.val (.double b), .second, .val (.double 13830554455654793216), .second, .val (.double 0), .second, .val (.double 13830554455654793216), .second, .val (.int (expOf b)), .val (.long b.toInt64), .second, .val (.long (maskOf b)), .second, .unset, .unset] [(.long b.toInt64), (.long (maskOf b))])) _
  refine XT.land A4 hx rfl (hb hbyF dfo_87) rfl ?_
  show Steps p.tables e below ((own_V T vm4 (.java (mkF mF 0 #[.val (.double b), .second, .val (.double 13830554455654793216), .second, .val (.double 0), .second, .val (.double 13830554455654793216), .second, .unset, .unset, .unset, .unset, .unset, .unset, .unset] []) :: .java g :: B)).setTop (mkF mF 88 #[.val (.double b), .second, .val (.double 13830554455654793216), .second, .val (.double 0), .second, .val (.double 13830554455654793216), .second, .val (.int (expOf b)), .val (.long b.toInt64), .second, .val (.long (maskOf b)), .second, .unset, .unset] [(.long ((maskOf b) &&& b.toInt64))])) _
  refine XT.lconstV A4 hx rfl 0 (hb hbyF dfo_88) (by decide) ?_
  show Steps p.tables e below ((own_V T vm4 (.java (mkF mF 0 #[.val (.double b), .second, .val (.double 13830554455654793216), .second, .val (.double 0), .second, .val (.double 13830554455654793216), .second, .unset, .unset, .unset, .unset, .unset, .unset, .unset] []) :: .java g :: B)).setTop (mkF mF 89 #[.val (.double b), .second, .val (.double 13830554455654793216), .second, .val (.double 0), .second, .val (.double 13830554455654793216), .second, .val (.int (expOf b)), .val (.long b.toInt64), .second, .val (.long (maskOf b)), .second, .unset, .unset] [(.long 0), (.long ((maskOf b) &&& b.toInt64))])) _
  refine XT.lcmp A4 hx rfl (hb hbyF dfo_89) rfl ?_
  show Steps p.tables e below ((own_V T vm4 (.java (mkF mF 0 #[.val (.double b), .second, .val (.double 13830554455654793216), .second, .val (.double 0), .second, .val (.double 13830554455654793216), .second, .unset, .unset, .unset, .unset, .unset, .unset, .unset] []) :: .java g :: B)).setTop (mkF mF 90 #[.val (.double b), .second, .val (.double 13830554455654793216), .second, .val (.double 0), .second, .val (.double 13830554455654793216), .second, .val (.int (expOf b)), .val (.long b.toInt64), .second, .val (.long (maskOf b)), .second, .unset, .unset] [(.int (XT.cmpL ((maskOf b) &&& b.toInt64) 0))])) _
  refine XS.ifNo A4 hx rfl (hb hbyF dfo_90) rfl (XT.ll_ne_f hz) ?_
  show Steps p.tables e below ((own_V T vm4 (.java (mkF mF 0 #[.val (.double b), .second, .val (.double 13830554455654793216), .second, .val (.double 0), .second, .val (.double 13830554455654793216), .second, .unset, .unset, .unset, .unset, .unset, .unset, .unset] []) :: .java g :: B)).setTop (mkF mF 93 #[.val (.double b), .second, .val (.double 13830554455654793216), .second, .val (.double 0), .second, .val (.double 13830554455654793216), .second, .val (.int (expOf b)), .val (.long b.toInt64), .second, .val (.long (maskOf b)), .second, .unset, .unset] [])) _
  refine XS.dloadN A4 hx rfl (hb hbyF dfo_93) rfl ?_
  show Steps p.tables e below ((own_V T vm4 (.java (mkF mF 0 #[.val (.double b), .second, .val (.double 13830554455654793216), .second, .val (.double 0), .second, .val (.double 13830554455654793216), .second, .unset, .unset, .unset, .unset, .unset, .unset, .unset] []) :: .java g :: B)).setTop (mkF mF 94 #[.val (.double b), .second, .val (.double 13830554455654793216), .second, .val (.double 0), .second, .val (.double 13830554455654793216), .second, .val (.int (expOf b)), .val (.long b.toInt64), .second, .val (.long (maskOf b)), .second, .unset, .unset] [(.double b)])) _
  exact own_ret A4 hx (by show vm4.method? mF = _; rw [hW4.alike.method?]; exact hmF) hlF hrF (Or.inr ⟨rfl, rfl, _, rfl⟩) (hb hbyF dfo_94) (own_V_frames hcur) (own_handJ (own_codeV hW4 hmg hcg) hdg)
theorem own_cutV {b : UInt64} : (b.toInt64 &&& (maskOf b ^^^ (-1))).toUInt64 = cutOf b := by
  unfold cutOf
  rw [show maskOf b ^^^ (-1) = ~~~ maskOf b from by apply Int64.toBitVec_inj.mp; rw [Int64.toBitVec_xor, Int64.toBitVec_not, show (-1 : Int64).toBitVec = BitVec.allOnes 64 from by decide, BitVec.xor_allOnes]]
set_option maxRecDepth 65536 in
set_option maxHeartbeats 8000000 in
theorem own_foc3 (X : Stand p l e R s m args below meth c T locs cells slots) (hx : p.tables.exec = Jvm.exec) {Z : State} (hZ : Z.Warmed39 s.vm) {a0 : Array Value} (hw : ∀ d ∈ tables_1, d.before a0 Z = true) {vm : Vm} (hW : s.WarmedH vm) {B mid : List Frame} (hB : B = mid ++ below) (hroom : ∀ (xs : List Frame) (vm' : Vm) (vars : Nat) (u : State), xs.length ≤ 4 → stackWeight xs + vars ≤ 120 → u = own_V T vm' (xs ++ B) → e.platform.stackFull ((u.threads[u.cur]?).getD { frames := [] }) u.frames vars = false) {g : JFrame} {methg : Method} {cg : Code} {ig : Instr} (hmg : s.vm.method? g.method = some methg) (hcg : methg.code = some cg) (hdg : decode cg.code g.pc = .ok (ig, 3)) {mF : MethodId} {methF : Method} {cF : Code} (hnF : s.methodNamed? (⟨"java/lang/StrictMath", "floorOrCeil", "(DDDD)D"⟩ : MethodName) = some mF) (hmF : s.vm.method? mF = some methF) (hcF : methF.code = some cF) (hlF : methF.locks = false) (hrF : methF.sig.returnType = some .double) (hmlF : cF.maxLocals = 15) (hbyF : cF.code = jdk_128_method_18_code) {mG : MethodId} {methG : Method} {cG : Code} (hnG : s.methodNamed? (⟨"java/lang/Math", "getExponent", "(D)I"⟩ : MethodName) = some mG) (hmG : s.vm.method? mG = some methG) (hcG : methG.code = some cG) (hlG : methG.locks = false) (hrG : methG.sig.returnType = some .int) (hmlG : cG.maxLocals = 2) (hbyG : cG.code = jdk_29_method_92_code) (hgw : stackWeight [.java g] ≤ 30) {b : UInt64} (he : ¬ expOf b < 0) (he2 : expOf b < 52) (hz : ¬ maskOf b &&& b.toInt64 = 0) (hv : ((b.toInt64 &&& (maskOf b ^^^ (-1))).toUInt64 &&& 0x7fffffffffffffff > 0x7ff0000000000000 && (b.toInt64 &&& (maskOf b ^^^ (-1))).toUInt64 &&& 0x0008000000000000 == 0) = false) (hnn : Jvm.Free.Fl.NoNaN64 (FP.dmul 13830554455654793216 b)) (hle : ¬ 0 < cmpValue (FP.dcmp (FP.dmul 13830554455654793216 b) 0) .l) (S : Sta Z T.heap "java/lang/StrictMath" "$assertionsDisabled" "Z" (.int 1)) :
    ∃ vm', s.WarmedH vm' ∧ Steps p.tables e below (own_V T vm (.java (mkF mF 0 #[.val (.double b), .second, .val (.double 13830554455654793216), .second, .val (.double 0), .second, .val (.double 13830554455654793216), .second, .unset, .unset, .unset, .unset, .unset, .unset, .unset] []) :: .java g :: B)) (own_V T vm' (.java { g with pc := g.pc + 3, stack := .double (cutOf b) :: g.stack } :: B)) := by
  have hcur := own_cur X
  have hown : s.vm.findClass "java/lang/StrictMath" = some mF.cls := findClass_of_methodNamed hnF
  have A0 : At (own_V T vm (.java (mkF mF 0 #[.val (.double b), .second, .val (.double 13830554455654793216), .second, .val (.double 0), .second, .val (.double 13830554455654793216), .second, .unset, .unset, .unset, .unset, .unset, .unset, .unset] []) :: .java g :: B)) mF cF below := own_at X hW (mid := .java g :: mid) (by rw [hB]; rfl) (by decide +kernel) hnF hmF hcF
  have hsG : methG.isStatic = true := Cond.static_spec hnG hmG (mvT (args := args) hZ (hw _ (List.mem_of_getElem? (i := 60) rfl)))
  obtain ⟨kG, hkG, -⟩ := className_of_methodNamed hnG
  have hiG : kG.init = .initialized := Cond.initialized_spec (findClass_of_methodNamed hnG) hkG (mvT (args := args) hZ (hw _ (List.mem_of_getElem? (i := 49) rfl)))
  have hpG : methG.sig.parameters.length = 1 := by
    obtain ⟨z1, z2, z3, -, -, -, -, -, -, z9⟩ := Cond.code_spec (args := args) hnG (mvT (args := args) hZ (hw _ (List.mem_of_getElem? (i := 61) rfl)))
    cases hmG.symm.trans z3
    have z8 : parseMethodDescriptor "(D)I" = some { parameters := [.double], returnType := some .int } := by decide +kernel
    rw [← Option.some.inj (z8.symm.trans z9)]; rfl
  obtain ⟨vm1, hW1, st1⟩ := own_link A0 hx X.admits hW hown (mvT (args := args) hZ (hw _ (List.mem_of_getElem? (i := 59) rfl))) hnG hmG hsG hkG hiG (by decide) (g := (mkF mF 1 #[.val (.double b), .second, .val (.double 13830554455654793216), .second, .val (.double 0), .second, .val (.double 13830554455654793216), .second, .unset, .unset, .unset, .unset, .unset, .unset, .unset] [(.double b)])) rfl (argsL := [.double b]) (rest := []) (by rw [hpG]; rfl) rfl (hb hbyF dfo_1)
  have A1 : At (own_V T vm1 (.java (mkF mF 0 #[.val (.double b), .second, .val (.double 13830554455654793216), .second, .val (.double 0), .second, .val (.double 13830554455654793216), .second, .unset, .unset, .unset, .unset, .unset, .unset, .unset] []) :: .java g :: B)) mF cF below := A0.setVm (hW.alike.symm.trans hW1.alike)
  have hmG1 : vm1.method? mG = some methG := by rw [hW1.alike.method?]; exact hmG
  have hrm1 := hroom [.java (mkF mF 1 #[.val (.double b), .second, .val (.double 13830554455654793216), .second, .val (.double 0), .second, .val (.double 13830554455654793216), .second, .unset, .unset, .unset, .unset, .unset, .unset, .unset] []), .java g] vm1 cG.maxLocals (own_V T vm1 (.java (mkF mF 1 #[.val (.double b), .second, .val (.double 13830554455654793216), .second, .val (.double 0), .second, .val (.double 13830554455654793216), .second, .unset, .unset, .unset, .unset, .unset, .unset, .unset] []) :: .java g :: B)) (by simp) (by rw [hmlG, own_wcons]; show 11 + 15 + 2 * 0 + 0 + stackWeight [.java g] + 2 ≤ 120; omega) rfl
  obtain ⟨vm2, hW2, st2⟩ := own_gx X hx hZ hw hW1 (B := .java g :: B) (mid := .java g :: mid) (by rw [hB]; rfl) (fun xs vm' vars u q1 q2 q3 => hroom (xs ++ [.java g]) vm' vars u (by rw [List.length_append, List.length_singleton]; omega) (by rw [own_weight]; omega) (by rw [q3, List.append_assoc]; rfl)) (g := (mkF mF 1 #[.val (.double b), .second, .val (.double 13830554455654793216), .second, .val (.double 0), .second, .val (.double 13830554455654793216), .second, .unset, .unset, .unset, .unset, .unset, .unset, .unset] [])) hmF hcF (hb hbyF dfo_1) hnG hmG hcG hlG hrG hmlG hbyG (by rw [own_wcons]; show 11 + 15 + 2 * 0 + 0 + 0 ≤ 40; decide) b
  have A2 : At (own_V T vm2 (.java (mkF mF 0 #[.val (.double b), .second, .val (.double 13830554455654793216), .second, .val (.double 0), .second, .val (.double 13830554455654793216), .second, .unset, .unset, .unset, .unset, .unset, .unset, .unset] []) :: .java g :: B)) mF cF below := A0.setVm (hW.alike.symm.trans hW2.alike)
  obtain ⟨vm3, hW3, st3⟩ := own_getS A2 hx X.admits hW2 hZ hown (mvT (args := args) hZ (hw _ (List.mem_of_getElem? (i := 79) rfl))) (show Sta Z (own_V T vm2 _).heap _ _ _ _ from S) (g := (mkF mF 43 #[.val (.double b), .second, .val (.double 13830554455654793216), .second, .val (.double 0), .second, .val (.double 13830554455654793216), .second, .val (.int (expOf b)), .unset, .unset, .unset, .unset, .unset, .unset] [])) rfl (hb hbyF dfo_43)
  have A3 : At (own_V T vm3 (.java (mkF mF 0 #[.val (.double b), .second, .val (.double 13830554455654793216), .second, .val (.double 0), .second, .val (.double 13830554455654793216), .second, .unset, .unset, .unset, .unset, .unset, .unset, .unset] []) :: .java g :: B)) mF cF below := A0.setVm (hW.alike.symm.trans hW3.alike)
  obtain ⟨r, kS, methS, hnS, hmS, hkS, N⟩ := NativeOf.of_static (args := args) (mvT (args := args) hZ (hw _ (List.mem_of_getElem? (i := 65) rfl))) (mvT (args := args) hZ (hw _ (List.mem_of_getElem? (i := 63) rfl))) (ps := [.double]) (ret := some .long) (by decide +kernel)
  have hinitS : kS.init = .initialized := Cond.initialized_spec (findClass_of_methodNamed hnS) hkS (mvT (args := args) hZ (hw _ (List.mem_of_getElem? (i := 64) rfl)))
  obtain ⟨vm4, hW4, st4⟩ := own_link A3 hx X.admits hW3 hown (mvT (args := args) hZ (hw _ (List.mem_of_getElem? (i := 80) rfl))) hnS hmS N.static hkS hinitS (by decide) (g := (mkF mF 70 #[.val (.double b), .second, .val (.double 13830554455654793216), .second, .val (.double 0), .second, .val (.double 13830554455654793216), .second, .val (.int (expOf b)), .unset, .unset, .unset, .unset, .unset, .unset] [(.double b)])) rfl (argsL := [.double b]) (rest := []) (by rw [N.sig]; rfl) rfl (hb hbyF dfo_70)
  obtain ⟨kS', N'⟩ := N.alike hW4.alike
  have A4 : At (own_V T vm4 (.java (mkF mF 0 #[.val (.double b), .second, .val (.double 13830554455654793216), .second, .val (.double 0), .second, .val (.double 13830554455654793216), .second, .unset, .unset, .unset, .unset, .unset, .unset, .unset] []) :: .java g :: B)) mF cF below := A0.setVm (hW.alike.symm.trans hW4.alike)
  have hr4 := hroom [.java (mkF mF 70 #[.val (.double b), .second, .val (.double 13830554455654793216), .second, .val (.double 0), .second, .val (.double 13830554455654793216), .second, .val (.int (expOf b)), .unset, .unset, .unset, .unset, .unset, .unset] []), .java g] vm4 (nativeFrameWords "java/lang/Double" "doubleToRawLongBits" 2) ((own_V T vm4 (.java (mkF mF 0 #[.val (.double b), .second, .val (.double 13830554455654793216), .second, .val (.double 0), .second, .val (.double 13830554455654793216), .second, .unset, .unset, .unset, .unset, .unset, .unset, .unset] []) :: .java g :: B)).setTop (mkF mF 70 #[.val (.double b), .second, .val (.double 13830554455654793216), .second, .val (.double 0), .second, .val (.double 13830554455654793216), .second, .val (.int (expOf b)), .unset, .unset, .unset, .unset, .unset, .unset] [])) (by simp) (by rw [own_n4, own_wcons]; show 11 + 15 + 2 * 0 + 0 + stackWeight [.java g] + 4 ≤ 120; omega) (own_V_top hcur)
  obtain ⟨r5, k5, meth5, hn5, hm5, hk5, N5⟩ := NativeOf.of_static (args := args) (mvT (args := args) hZ (hw _ (List.mem_of_getElem? (i := 85) rfl))) (mvT (args := args) hZ (hw _ (List.mem_of_getElem? (i := 84) rfl))) (ps := [.long]) (ret := some .double) (by decide +kernel)
  have hi5 : k5.init = .initialized := Cond.initialized_spec (findClass_of_methodNamed hn5) hk5 (mvT (args := args) hZ (hw _ (List.mem_of_getElem? (i := 64) rfl)))
  obtain ⟨vm5, hW5, st5⟩ := own_link A4 hx X.admits hW4 hown (mvT (args := args) hZ (hw _ (List.mem_of_getElem? (i := 83) rfl))) hn5 hm5 N5.static hk5 hi5 (by decide) (g := (mkF mF 104 #[.val (.double b), .second, .val (.double 13830554455654793216), .second, .val (.double 0), .second, .val (.double 13830554455654793216), .second, .val (.int (expOf b)), .val (.long b.toInt64), .second, .val (.long (maskOf b)), .second, .unset, .unset] [(.long (b.toInt64 &&& (maskOf b ^^^ (-1))))])) rfl (argsL := [.long (b.toInt64 &&& (maskOf b ^^^ (-1)))]) (rest := []) (by rw [N5.sig]; rfl) rfl (hb hbyF dfo_104)
  obtain ⟨k5', N5'⟩ := N5.alike hW5.alike
  have A5 : At (own_V T vm5 (.java (mkF mF 0 #[.val (.double b), .second, .val (.double 13830554455654793216), .second, .val (.double 0), .second, .val (.double 13830554455654793216), .second, .unset, .unset, .unset, .unset, .unset, .unset, .unset] []) :: .java g :: B)) mF cF below := A0.setVm (hW.alike.symm.trans hW5.alike)
  have hr5 := hroom [.java (mkF mF 104 #[.val (.double b), .second, .val (.double 13830554455654793216), .second, .val (.double 0), .second, .val (.double 13830554455654793216), .second, .val (.int (expOf b)), .val (.long b.toInt64), .second, .val (.long (maskOf b)), .second, .unset, .unset] []), .java g] vm5 (nativeFrameWords "java/lang/Double" "longBitsToDouble" 2) ((own_V T vm5 (.java (mkF mF 0 #[.val (.double b), .second, .val (.double 13830554455654793216), .second, .val (.double 0), .second, .val (.double 13830554455654793216), .second, .unset, .unset, .unset, .unset, .unset, .unset, .unset] []) :: .java g :: B)).setTop (mkF mF 104 #[.val (.double b), .second, .val (.double 13830554455654793216), .second, .val (.double 0), .second, .val (.double 13830554455654793216), .second, .val (.int (expOf b)), .val (.long b.toInt64), .second, .val (.long (maskOf b)), .second, .unset, .unset] [])) (by simp) (by rw [own_n4', own_wcons]; show 11 + 15 + 2 * 0 + 0 + stackWeight [.java g] + 4 ≤ 120; omega) (own_V_top hcur)
  refine ⟨vm5, hW5, ?_⟩
  have e0 : own_V T vm (.java (mkF mF 0 #[.val (.double b), .second, .val (.double 13830554455654793216), .second, .val (.double 0), .second, .val (.double 13830554455654793216), .second, .unset, .unset, .unset, .unset, .unset, .unset, .unset] []) :: .java g :: B) = (own_V T vm (.java (mkF mF 0 #[.val (.double b), .second, .val (.double 13830554455654793216), .second, .val (.double 0), .second, .val (.double 13830554455654793216), .second, .unset, .unset, .unset, .unset, .unset, .unset, .unset] []) :: .java g :: B)).setTop (mkF mF 0 #[.val (.double b), .second, .val (.double 13830554455654793216), .second, .val (.double 0), .second, .val (.double 13830554455654793216), .second, .unset, .unset, .unset, .unset, .unset, .unset, .unset] []) := (own_V_top hcur).symm
  have e9 : own_V T vm5 (.java { g with pc := g.pc + 3, stack := .double (cutOf b) :: g.stack } :: B) = (own_V T vm5 (.java (mkF mF 0 #[.val (.double b), .second, .val (.double 13830554455654793216), .second, .val (.double 0), .second, .val (.double 13830554455654793216), .second, .unset, .unset, .unset, .unset, .unset, .unset, .unset] []) :: .java g :: B)).setFrames (.java { g with pc := g.pc + 3, stack := .double (cutOf b) :: g.stack } :: B) := own_V_set.symm
  rw [e0, e9]
  show Steps p.tables e below ((own_V T vm (.java (mkF mF 0 #[.val (.double b), .second, .val (.double 13830554455654793216), .second, .val (.double 0), .second, .val (.double 13830554455654793216), .second, .unset, .unset, .unset, .unset, .unset, .unset, .unset] []) :: .java g :: B)).setTop (mkF mF 0 #[.val (.double b), .second, .val (.double 13830554455654793216), .second, .val (.double 0), .second, .val (.double 13830554455654793216), .second, .unset, .unset, .unset, .unset, .unset, .unset, .unset] [])) _
  refine XS.dloadN A0 hx rfl (hb hbyF dfo_0) rfl ?_
  show Steps p.tables e below ((own_V T vm (.java (mkF mF 0 #[.val (.double b), .second, .val (.double 13830554455654793216), .second, .val (.double 0), .second, .val (.double 13830554455654793216), .second, .unset, .unset, .unset, .unset, .unset, .unset, .unset] []) :: .java g :: B)).setTop (mkF mF 1 #[.val (.double b), .second, .val (.double 13830554455654793216), .second, .val (.double 0), .second, .val (.double 13830554455654793216), .second, .unset, .unset, .unset, .unset, .unset, .unset, .unset] [(.double b)])) _
  refine st1 _ fun acts => ?_
  rw [show (own_V T vm (.java (mkF mF 0 #[.val (.double b), .second, .val (.double 13830554455654793216), .second, .val (.double 0), .second, .val (.double 13830554455654793216), .second, .unset, .unset, .unset, .unset, .unset, .unset, .unset] []) :: .java g :: B)).setVm vm1 = own_V T vm1 (.java (mkF mF 0 #[.val (.double b), .second, .val (.double 13830554455654793216), .second, .val (.double 0), .second, .val (.double 13830554455654793216), .second, .unset, .unset, .unset, .unset, .unset, .unset, .unset] []) :: .java g :: B) from rfl, show ({ (mkF mF 1 #[.val (.double b), .second, .val (.double 13830554455654793216), .second, .val (.double 0), .second, .val (.double 13830554455654793216), .second, .unset, .unset, .unset, .unset, .unset, .unset, .unset] [(.double b)]) with stack := [] } : JFrame) = (mkF mF 1 #[.val (.double b), .second, .val (.double 13830554455654793216), .second, .val (.double 0), .second, .val (.double 13830554455654793216), .second, .unset, .unset, .unset, .unset, .unset, .unset, .unset] []) from rfl, own_enter hcur acts hmG1 hcG hlG (f' := (mkF mG 0 #[.val (.double b), .second] [])) (by rw [hmlG]; rfl) hrm1]
  refine st2.trans ?_
  rw [← own_V_top hcur (f := (mkF mF 0 #[.val (.double b), .second, .val (.double 13830554455654793216), .second, .val (.double 0), .second, .val (.double 13830554455654793216), .second, .unset, .unset, .unset, .unset, .unset, .unset, .unset] []))]
  show Steps p.tables e below ((own_V T vm2 (.java (mkF mF 0 #[.val (.double b), .second, .val (.double 13830554455654793216), .second, .val (.double 0), .second, .val (.double 13830554455654793216), .second, .unset, .unset, .unset, .unset, .unset, .unset, .unset] []) :: .java g :: B)).setTop (mkF mF 4 #[.val (.double b), .second, .val (.double 13830554455654793216), .second, .val (.double 0), .second, .val (.double 13830554455654793216), .second, .unset, .unset, .unset, .unset, .unset, .unset, .unset] [(.int (expOf b))])) _
  refine XS.istore A2 hx rfl (hb hbyF dfo_4) rfl rfl ?_
  show Steps p.tables e below ((own_V T vm2 (.java (mkF mF 0 #[.val (.double b), .second, .val (.double 13830554455654793216), .second, .val (.double 0), .second, .val (.double 13830554455654793216), .second, .unset, .unset, .unset, .unset, .unset, .unset, .unset] []) :: .java g :: B)).setTop (mkF mF 6 #[.val (.double b), .second, .val (.double 13830554455654793216), .second, .val (.double 0), .second, .val (.double 13830554455654793216), .second, .val (.int (expOf b)), .unset, .unset, .unset, .unset, .unset, .unset] [])) _
  refine XS.iload A2 hx rfl (hb hbyF dfo_6) rfl ?_
  show Steps p.tables e below ((own_V T vm2 (.java (mkF mF 0 #[.val (.double b), .second, .val (.double 13830554455654793216), .second, .val (.double 0), .second, .val (.double 13830554455654793216), .second, .unset, .unset, .unset, .unset, .unset, .unset, .unset] []) :: .java g :: B)).setTop (mkF mF 8 #[.val (.double b), .second, .val (.double 13830554455654793216), .second, .val (.double 0), .second, .val (.double 13830554455654793216), .second, .val (.int (expOf b)), .unset, .unset, .unset, .unset, .unset, .unset] [(.int (expOf b))])) _
  refine XS.ifYes A2 hx rfl rfl (hb hbyF dfo_8) rfl (XT.i0_ge_t he) (show (0 : Int) ≤ ((8 : Nat) : Int) + (26) by decide) (show (((8 : Nat) : Int) + (26)).toNat = 34 by decide) ?_
  show Steps p.tables e below ((own_V T vm2 (.java (mkF mF 0 #[.val (.double b), .second, .val (.double 13830554455654793216), .second, .val (.double 0), .second, .val (.double 13830554455654793216), .second, .unset, .unset, .unset, .unset, .unset, .unset, .unset] []) :: .java g :: B)).setTop (mkF mF 34 #[.val (.double b), .second, .val (.double 13830554455654793216), .second, .val (.double 0), .second, .val (.double 13830554455654793216), .second, .val (.int (expOf b)), .unset, .unset, .unset, .unset, .unset, .unset] [])) _
  refine XS.iload A2 hx rfl (hb hbyF dfo_34) rfl ?_
  show Steps p.tables e below ((own_V T vm2 (.java (mkF mF 0 #[.val (.double b), .second, .val (.double 13830554455654793216), .second, .val (.double 0), .second, .val (.double 13830554455654793216), .second, .unset, .unset, .unset, .unset, .unset, .unset, .unset] []) :: .java g :: B)).setTop (mkF mF 36 #[.val (.double b), .second, .val (.double 13830554455654793216), .second, .val (.double 0), .second, .val (.double 13830554455654793216), .second, .val (.int (expOf b)), .unset, .unset, .unset, .unset, .unset, .unset] [(.int (expOf b))])) _
  refine XT.bipushV A2 hx rfl 52 (hb hbyF dfo_36) (by decide) ?_
  show Steps p.tables e below ((own_V T vm2 (.java (mkF mF 0 #[.val (.double b), .second, .val (.double 13830554455654793216), .second, .val (.double 0), .second, .val (.double 13830554455654793216), .second, .unset, .unset, .unset, .unset, .unset, .unset, .unset] []) :: .java g :: B)).setTop (mkF mF 38 #[.val (.double b), .second, .val (.double 13830554455654793216), .second, .val (.double 0), .second, .val (.double 13830554455654793216), .second, .val (.int (expOf b)), .unset, .unset, .unset, .unset, .unset, .unset] [(.int 52), (.int (expOf b))])) _
  refine XS.icmpYes A2 hx rfl rfl (hb hbyF dfo_38) rfl (XT.ii_lt_t he2) (show (0 : Int) ≤ ((38 : Nat) : Int) + (5) by decide) (show (((38 : Nat) : Int) + (5)).toNat = 43 by decide) ?_
  show Steps p.tables e below ((own_V T vm2 (.java (mkF mF 0 #[.val (.double b), .second, .val (.double 13830554455654793216), .second, .val (.double 0), .second, .val (.double 13830554455654793216), .second, .unset, .unset, .unset, .unset, .unset, .unset, .unset] []) :: .java g :: B)).setTop (mkF mF 43 #[.val (.double b), .second, .val (.double 13830554455654793216), .second, .val (.double 0), .second, .val (.double 13830554455654793216), .second, .val (.int (expOf b)), .unset, .unset, .unset, .unset, .unset, .unset] [])) _
  refine st3 _ ?_
  show Steps p.tables e below ((own_V T vm3 (.java (mkF mF 0 #[.val (.double b), .second, .val (.double 13830554455654793216), .second, .val (.double 0), .second, .val (.double 13830554455654793216), .second, .unset, .unset, .unset, .unset, .unset, .unset, .unset] []) :: .java g :: B)).setTop (mkF mF 46 #[.val (.double b), .second, .val (.double 13830554455654793216), .second, .val (.double 0), .second, .val (.double 13830554455654793216), .second, .val (.int (expOf b)), .unset, .unset, .unset, .unset, .unset, .unset] [(.int 1)])) _
  refine XS.ifYes A3 hx rfl rfl (hb hbyF dfo_46) rfl (by decide) (show (0 : Int) ≤ ((46 : Nat) : Int) + (23) by decide) (show (((46 : Nat) : Int) + (23)).toNat = 69 by decide) ?_
  show Steps p.tables e below ((own_V T vm3 (.java (mkF mF 0 #[.val (.double b), .second, .val (.double 13830554455654793216), .second, .val (.double 0), .second, .val (.double 13830554455654793216), .second, .unset, .unset, .unset, .unset, .unset, .unset, .unset] []) :: .java g :: B)).setTop (mkF mF 69 #[.val (.double b), .second, .val (.double 13830554455654793216), .second, .val (.double 0), .second, .val (.double 13830554455654793216), .second, .val (.int (expOf b)), .unset, .unset, .unset, .unset, .unset, .unset] [])) _
  refine XS.dloadN A3 hx rfl (hb hbyF dfo_69) rfl ?_
  show Steps p.tables e below ((own_V T vm3 (.java (mkF mF 0 #[.val (.double b), .second, .val (.double 13830554455654793216), .second, .val (.double 0), .second, .val (.double 13830554455654793216), .second, .unset, .unset, .unset, .unset, .unset, .unset, .unset] []) :: .java g :: B)).setTop (mkF mF 70 #[.val (.double b), .second, .val (.double 13830554455654793216), .second, .val (.double 0), .second, .val (.double 13830554455654793216), .second, .val (.int (expOf b)), .unset, .unset, .unset, .unset, .unset, .unset] [(.double b)])) _
  refine st4 _ fun acts => ?_
  rw [show (own_V T vm3 (.java (mkF mF 0 #[.val (.double b), .second, .val (.double 13830554455654793216), .second, .val (.double 0), .second, .val (.double 13830554455654793216), .second, .unset, .unset, .unset, .unset, .unset, .unset, .unset] []) :: .java g :: B)).setVm vm4 = own_V T vm4 (.java (mkF mF 0 #[.val (.double b), .second, .val (.double 13830554455654793216), .second, .val (.double 0), .second, .val (.double 13830554455654793216), .second, .unset, .unset, .unset, .unset, .unset, .unset, .unset] []) :: .java g :: B) from rfl]
  refine Steps.doubleToRawLongBitsOf (g := (mkF mF 70 #[.val (.double b), .second, .val (.double 13830554455654793216), .second, .val (.double 0), .second, .val (.double 13830554455654793216), .second, .val (.int (expOf b)), .unset, .unset, .unset, .unset, .unset, .unset] [])) (ig := .invokestatic 77) (len := 3) p A4 acts N' b hr4 (hb hbyF dfo_70) ?_
  show Steps p.tables e below ((own_V T vm4 (.java (mkF mF 0 #[.val (.double b), .second, .val (.double 13830554455654793216), .second, .val (.double 0), .second, .val (.double 13830554455654793216), .second, .unset, .unset, .unset, .unset, .unset, .unset, .unset] []) :: .java g :: B)).setTop (mkF mF 73 #[.val (.double b), .second, .val (.double 13830554455654793216), .second, .val (.double 0), .second, .val (.double 13830554455654793216), .second, .val (.int (expOf b)), .unset, .unset, .unset, .unset, .unset, .unset] [(.long b.toInt64)])) _
  refine XT.lstore A4 hx rfl (hb hbyF dfo_73) rfl rfl ?_
  show Steps p.tables e below ((own_V T vm4 (.java (mkF mF 0 #[.val (.double b), .second, .val (.double 13830554455654793216), .second, .val (.double 0), .second, .val (.double 13830554455654793216), .second, .unset, .unset, .unset, .unset, .unset, .unset, .unset] []) :: .java g :: B)).setTop (mkF mF 75 #[.val (.double b), .second, .val (.double 13830554455654793216), .second, .val (.double 0), .second, .val (.double 13830554455654793216), .second, .val (.int (expOf b)), .val (.long b.toInt64), .second, .unset, .unset, .unset, .unset] [])) _
  refine own_ldcJ (v := 4503599627370495) (own := "java/lang/StrictMath") (index := 85) (g := (mkF mF 75 #[.val (.double b), .second, .val (.double 13830554455654793216), .second, .val (.double 0), .second, .val (.double 13830554455654793216), .second, .val (.int (expOf b)), .val (.long b.toInt64), .second, .unset, .unset, .unset, .unset] [])) A4 hx hW4 hown (mvT (args := args) hZ (hw _ (List.mem_of_getElem? (i := 81) rfl))) rfl (hb hbyF dfo_75) ?_
  show Steps p.tables e below ((own_V T vm4 (.java (mkF mF 0 #[.val (.double b), .second, .val (.double 13830554455654793216), .second, .val (.double 0), .second, .val (.double 13830554455654793216), .second, .unset, .unset, .unset, .unset, .unset, .unset, .unset] []) :: .java g :: B)).setTop (mkF mF 78 #[.val (.double b), .second, .val (.double 13830554455654793216), .second, .val (.double 0), .second, .val (.double 13830554455654793216), .second, .val (.int (expOf b)), .val (.long b.toInt64), .second, .unset, .unset, .unset, .unset] [(.long 4503599627370495)])) _
  refine XS.iload A4 hx rfl (hb hbyF dfo_78) rfl ?_
  show Steps p.tables e below ((own_V T vm4 (.java (mkF mF 0 #[.val (.double b), .second, .val (.double 13830554455654793216), .second, .val (.double 0), .second, .val (.double 13830554455654793216), .second, .unset, .unset, .unset, .unset, .unset, .unset, .unset] []) :: .java g :: B)).setTop (mkF mF 80 #[.val (.double b), .second, .val (.double 13830554455654793216), .second, .val (.double 0), .second, .val (.double 13830554455654793216), .second, .val (.int (expOf b)), .val (.long b.toInt64), .second, .unset, .unset, .unset, .unset] [(.int (expOf b)), (.long 4503599627370495)])) _
  refine XT.lshr A4 hx rfl (hb hbyF dfo_80) rfl ?_
  show Steps p.tables e below ((own_V T vm4 (.java (mkF mF 0 #[.val (.double b), .second, .val (.double 13830554455654793216), .second, .val (.double 0), .second, .val (.double 13830554455654793216), .second, .unset, .unset, .unset, .unset, .unset, .unset, .unset] []) :: .java g :: B)).setTop (mkF mF 81 #[.val (.double b), .second, .val (.double 13830554455654793216), .second, .val (.double 0), .second, .val (.double 13830554455654793216), .second, .val (.int (expOf b)), .val (.long b.toInt64), .second, .unset, .unset, .unset, .unset] [(.long (maskOf b))])) _
  refine XT.lstore A4 hx rfl (hb hbyF dfo_81) rfl rfl ?_
  show Steps p.tables e below ((own_V T vm4 (.java (mkF mF 0 #[.val (.double b), .second, .val (.double 13830554455654793216), .second, .val (.double 0), .second, .val (.double 13830554455654793216), .second, .unset, .unset, .unset, .unset, .unset, .unset, .unset] []) :: .java g :: B)).setTop (mkF mF 83 #[.val (.double b), .second, .val (.double 13830554455654793216), .second, .val (.double 0), .second, .val (.double 13830554455654793216), .second, .val (.int (expOf b)), .val (.long b.toInt64), .second, .val (.long (maskOf b)), .second, .unset, .unset] [])) _
  refine XT.lload A4 hx rfl (hb hbyF dfo_83) rfl ?_
  show Steps p.tables e below ((own_V T vm4 (.java (mkF mF 0 #[.val (.double b), .second, .val (.double 13830554455654793216), .second, .val (.double 0), .second, .val (.double 13830554455654793216), .second, .unset, .unset, .unset, .unset, .unset, .unset, .unset] []) :: .java g :: B)).setTop (mkF mF 85 #[.val (.double b), .second, .val (.double 13830554455654793216), .second, .val (.double 0), .second, .val (.double 13830554455654793216), .second, .val (.int (expOf b)), .val (.long b.toInt64), .second, .val (.long (maskOf b)), .second, .unset, .unset] [(.long (maskOf b))])) _
  refine XT.lload A4 hx rfl (hb hbyF dfo_85) rfl ?_
  show Steps p.tables e below ((own_V T vm4 (.java (mkF mF 0 #[.val (.double b), .second, .val (.double 13830554455654793216), .second, .val (.double 0), .second, .val (.double 13830554455654793216), .second, .unset, .unset, .unset, .unset, .unset, .unset, .unset] []) :: .java g :: B)).setTop (mkF mF 87 #[.val (.double b), .second, .val (.double 13830554455654793216), .second, .val (.double 0), .second, .val (.double 13830554455654793216), .second, .val (.int (expOf b)), .val (.long b.toInt64), .second, .val (.long (maskOf b)), .second, .unset, .unset] [(.long b.toInt64), (.long (maskOf b))])) _
  refine XT.land A4 hx rfl (hb hbyF dfo_87) rfl ?_
  show Steps p.tables e below ((own_V T vm4 (.java (mkF mF 0 #[.val (.double b), .second, .val (.double 13830554455654793216), .second, .val (.double 0), .second, .val (.double 13830554455654793216), .second, .unset, .unset, .unset, .unset, .unset, .unset, .unset] []) :: .java g :: B)).setTop (mkF mF 88 #[.val (.double b), .second, .val (.double 13830554455654793216), .second, .val (.double 0), .second, .val (.double 13830554455654793216), .second, .val (.int (expOf b)), .val (.long b.toInt64), .second, .val (.long (maskOf b)), .second, .unset, .unset] [(.long ((maskOf b) &&& b.toInt64))])) _
  refine XT.lconstV A4 hx rfl 0 (hb hbyF dfo_88) (by decide) ?_
  show Steps p.tables e below ((own_V T vm4 (.java (mkF mF 0 #[.val (.double b), .second, .val (.double 13830554455654793216), .second, .val (.double 0), .second, .val (.double 13830554455654793216), .second, .unset, .unset, .unset, .unset, .unset, .unset, .unset] []) :: .java g :: B)).setTop (mkF mF 89 #[.val (.double b), .second, .val (.double 13830554455654793216), .second, .val (.double 0), .second, .val (.double 13830554455654793216), .second, .val (.int (expOf b)), .val (.long b.toInt64), .second, .val (.long (maskOf b)), .second, .unset, .unset] [(.long 0), (.long ((maskOf b) &&& b.toInt64))])) _
  refine XT.lcmp A4 hx rfl (hb hbyF dfo_89) rfl ?_
  show Steps p.tables e below ((own_V T vm4 (.java (mkF mF 0 #[.val (.double b), .second, .val (.double 13830554455654793216), .second, .val (.double 0), .second, .val (.double 13830554455654793216), .second, .unset, .unset, .unset, .unset, .unset, .unset, .unset] []) :: .java g :: B)).setTop (mkF mF 90 #[.val (.double b), .second, .val (.double 13830554455654793216), .second, .val (.double 0), .second, .val (.double 13830554455654793216), .second, .val (.int (expOf b)), .val (.long b.toInt64), .second, .val (.long (maskOf b)), .second, .unset, .unset] [(.int (XT.cmpL ((maskOf b) &&& b.toInt64) 0))])) _
  refine XS.ifYes A4 hx rfl rfl (hb hbyF dfo_90) rfl (XT.ll_ne_t hz) (show (0 : Int) ≤ ((90 : Nat) : Int) + (5) by decide) (show (((90 : Nat) : Int) + (5)).toNat = 95 by decide) ?_
  show Steps p.tables e below ((own_V T vm4 (.java (mkF mF 0 #[.val (.double b), .second, .val (.double 13830554455654793216), .second, .val (.double 0), .second, .val (.double 13830554455654793216), .second, .unset, .unset, .unset, .unset, .unset, .unset, .unset] []) :: .java g :: B)).setTop (mkF mF 95 #[.val (.double b), .second, .val (.double 13830554455654793216), .second, .val (.double 0), .second, .val (.double 13830554455654793216), .second, .val (.int (expOf b)), .val (.long b.toInt64), .second, .val (.long (maskOf b)), .second, .unset, .unset] [])) _
  refine XT.lload A4 hx rfl (hb hbyF dfo_95) rfl ?_
  show Steps p.tables e below ((own_V T vm4 (.java (mkF mF 0 #[.val (.double b), .second, .val (.double 13830554455654793216), .second, .val (.double 0), .second, .val (.double 13830554455654793216), .second, .unset, .unset, .unset, .unset, .unset, .unset, .unset] []) :: .java g :: B)).setTop (mkF mF 97 #[.val (.double b), .second, .val (.double 13830554455654793216), .second, .val (.double 0), .second, .val (.double 13830554455654793216), .second, .val (.int (expOf b)), .val (.long b.toInt64), .second, .val (.long (maskOf b)), .second, .unset, .unset] [(.long b.toInt64)])) _
  refine XT.lload A4 hx rfl (hb hbyF dfo_97) rfl ?_
  show Steps p.tables e below ((own_V T vm4 (.java (mkF mF 0 #[.val (.double b), .second, .val (.double 13830554455654793216), .second, .val (.double 0), .second, .val (.double 13830554455654793216), .second, .unset, .unset, .unset, .unset, .unset, .unset, .unset] []) :: .java g :: B)).setTop (mkF mF 99 #[.val (.double b), .second, .val (.double 13830554455654793216), .second, .val (.double 0), .second, .val (.double 13830554455654793216), .second, .val (.int (expOf b)), .val (.long b.toInt64), .second, .val (.long (maskOf b)), .second, .unset, .unset] [(.long (maskOf b)), (.long b.toInt64)])) _
  refine own_ldcJ (v := (-1)) (own := "java/lang/StrictMath") (index := 87) (g := (mkF mF 99 #[.val (.double b), .second, .val (.double 13830554455654793216), .second, .val (.double 0), .second, .val (.double 13830554455654793216), .second, .val (.int (expOf b)), .val (.long b.toInt64), .second, .val (.long (maskOf b)), .second, .unset, .unset] [(.long (maskOf b)), (.long b.toInt64)])) A4 hx hW4 hown (mvT (args := args) hZ (hw _ (List.mem_of_getElem? (i := 82) rfl))) rfl (hb hbyF dfo_99) ?_
  show Steps p.tables e below ((own_V T vm4 (.java (mkF mF 0 #[.val (.double b), .second, .val (.double 13830554455654793216), .second, .val (.double 0), .second, .val (.double 13830554455654793216), .second, .unset, .unset, .unset, .unset, .unset, .unset, .unset] []) :: .java g :: B)).setTop (mkF mF 102 #[.val (.double b), .second, .val (.double 13830554455654793216), .second, .val (.double 0), .second, .val (.double 13830554455654793216), .second, .val (.int (expOf b)), .val (.long b.toInt64), .second, .val (.long (maskOf b)), .second, .unset, .unset] [(.long (-1)), (.long (maskOf b)), (.long b.toInt64)])) _
  refine XT.lxor A4 hx rfl (hb hbyF dfo_102) rfl ?_
  show Steps p.tables e below ((own_V T vm4 (.java (mkF mF 0 #[.val (.double b), .second, .val (.double 13830554455654793216), .second, .val (.double 0), .second, .val (.double 13830554455654793216), .second, .unset, .unset, .unset, .unset, .unset, .unset, .unset] []) :: .java g :: B)).setTop (mkF mF 103 #[.val (.double b), .second, .val (.double 13830554455654793216), .second, .val (.double 0), .second, .val (.double 13830554455654793216), .second, .val (.int (expOf b)), .val (.long b.toInt64), .second, .val (.long (maskOf b)), .second, .unset, .unset] [(.long ((maskOf b) ^^^ (-1))), (.long b.toInt64)])) _
  refine XT.land A4 hx rfl (hb hbyF dfo_103) rfl ?_
  show Steps p.tables e below ((own_V T vm4 (.java (mkF mF 0 #[.val (.double b), .second, .val (.double 13830554455654793216), .second, .val (.double 0), .second, .val (.double 13830554455654793216), .second, .unset, .unset, .unset, .unset, .unset, .unset, .unset] []) :: .java g :: B)).setTop (mkF mF 104 #[.val (.double b), .second, .val (.double 13830554455654793216), .second, .val (.double 0), .second, .val (.double 13830554455654793216), .second, .val (.int (expOf b)), .val (.long b.toInt64), .second, .val (.long (maskOf b)), .second, .unset, .unset] [(.long (b.toInt64 &&& ((maskOf b) ^^^ (-1))))])) _
  refine st5 _ fun acts => ?_
  rw [show (own_V T vm4 (.java (mkF mF 0 #[.val (.double b), .second, .val (.double 13830554455654793216), .second, .val (.double 0), .second, .val (.double 13830554455654793216), .second, .unset, .unset, .unset, .unset, .unset, .unset, .unset] []) :: .java g :: B)).setVm vm5 = own_V T vm5 (.java (mkF mF 0 #[.val (.double b), .second, .val (.double 13830554455654793216), .second, .val (.double 0), .second, .val (.double 13830554455654793216), .second, .unset, .unset, .unset, .unset, .unset, .unset, .unset] []) :: .java g :: B) from rfl]
  refine Steps.longBitsToDoubleOf (g := (mkF mF 104 #[.val (.double b), .second, .val (.double 13830554455654793216), .second, .val (.double 0), .second, .val (.double 13830554455654793216), .second, .val (.int (expOf b)), .val (.long b.toInt64), .second, .val (.long (maskOf b)), .second, .unset, .unset] [])) (ig := .invokestatic 89) (len := 3) p A5 acts N5' _ hr5 hv (hb hbyF dfo_104) ?_
  rw [own_cutV]
  show Steps p.tables e below ((own_V T vm5 (.java (mkF mF 0 #[.val (.double b), .second, .val (.double 13830554455654793216), .second, .val (.double 0), .second, .val (.double 13830554455654793216), .second, .unset, .unset, .unset, .unset, .unset, .unset, .unset] []) :: .java g :: B)).setTop (mkF mF 107 #[.val (.double b), .second, .val (.double 13830554455654793216), .second, .val (.double 0), .second, .val (.double 13830554455654793216), .second, .val (.int (expOf b)), .val (.long b.toInt64), .second, .val (.long (maskOf b)), .second, .unset, .unset] [(.double (cutOf b))])) _
  refine XS.dstore A5 hx rfl (hb hbyF dfo_107) rfl rfl ?_
  show Steps p.tables e below ((own_V T vm5 (.java (mkF mF 0 #[.val (.double b), .second, .val (.double 13830554455654793216), .second, .val (.double 0), .second, .val (.double 13830554455654793216), .second, .unset, .unset, .unset, .unset, .unset, .unset, .unset] []) :: .java g :: B)).setTop (mkF mF 109 #[.val (.double b), .second, .val (.double 13830554455654793216), .second, .val (.double 0), .second, .val (.double 13830554455654793216), .second, .val (.int (expOf b)), .val (.long b.toInt64), .second, .val (.long (maskOf b)), .second, .val (.double (cutOf b)), .second] [])) _
  refine XS.dload A5 hx rfl (hb hbyF dfo_109) rfl ?_
  show Steps p.tables e below ((own_V T vm5 (.java (mkF mF 0 #[.val (.double b), .second, .val (.double 13830554455654793216), .second, .val (.double 0), .second, .val (.double 13830554455654793216), .second, .unset, .unset, .unset, .unset, .unset, .unset, .unset] []) :: .java g :: B)).setTop (mkF mF 111 #[.val (.double b), .second, .val (.double 13830554455654793216), .second, .val (.double 0), .second, .val (.double 13830554455654793216), .second, .val (.int (expOf b)), .val (.long b.toInt64), .second, .val (.long (maskOf b)), .second, .val (.double (cutOf b)), .second] [(.double 13830554455654793216)])) _
  refine XS.dloadN A5 hx rfl (hb hbyF dfo_111) rfl ?_
  show Steps p.tables e below ((own_V T vm5 (.java (mkF mF 0 #[.val (.double b), .second, .val (.double 13830554455654793216), .second, .val (.double 0), .second, .val (.double 13830554455654793216), .second, .unset, .unset, .unset, .unset, .unset, .unset, .unset] []) :: .java g :: B)).setTop (mkF mF 112 #[.val (.double b), .second, .val (.double 13830554455654793216), .second, .val (.double 0), .second, .val (.double 13830554455654793216), .second, .val (.int (expOf b)), .val (.long b.toInt64), .second, .val (.long (maskOf b)), .second, .val (.double (cutOf b)), .second] [(.double b), (.double 13830554455654793216)])) _
  refine XS.dmulS A5 hx rfl (hb hbyF dfo_112) rfl hnn rfl ?_
  show Steps p.tables e below ((own_V T vm5 (.java (mkF mF 0 #[.val (.double b), .second, .val (.double 13830554455654793216), .second, .val (.double 0), .second, .val (.double 13830554455654793216), .second, .unset, .unset, .unset, .unset, .unset, .unset, .unset] []) :: .java g :: B)).setTop (mkF mF 113 #[.val (.double b), .second, .val (.double 13830554455654793216), .second, .val (.double 0), .second, .val (.double 13830554455654793216), .second, .val (.int (expOf b)), .val (.long b.toInt64), .second, .val (.long (maskOf b)), .second, .val (.double (cutOf b)), .second] [(.double (FP.dmul 13830554455654793216 b))])) _
  refine XS.dconst0 A5 hx rfl (hb hbyF dfo_113) rfl ?_
  show Steps p.tables e below ((own_V T vm5 (.java (mkF mF 0 #[.val (.double b), .second, .val (.double 13830554455654793216), .second, .val (.double 0), .second, .val (.double 13830554455654793216), .second, .unset, .unset, .unset, .unset, .unset, .unset, .unset] []) :: .java g :: B)).setTop (mkF mF 114 #[.val (.double b), .second, .val (.double 13830554455654793216), .second, .val (.double 0), .second, .val (.double 13830554455654793216), .second, .val (.int (expOf b)), .val (.long b.toInt64), .second, .val (.long (maskOf b)), .second, .val (.double (cutOf b)), .second] [(.double 0), (.double (FP.dmul 13830554455654793216 b))])) _
  refine XS.dcmpS A5 hx rfl (hb hbyF dfo_114) rfl rfl ?_
  show Steps p.tables e below ((own_V T vm5 (.java (mkF mF 0 #[.val (.double b), .second, .val (.double 13830554455654793216), .second, .val (.double 0), .second, .val (.double 13830554455654793216), .second, .unset, .unset, .unset, .unset, .unset, .unset, .unset] []) :: .java g :: B)).setTop (mkF mF 115 #[.val (.double b), .second, .val (.double 13830554455654793216), .second, .val (.double 0), .second, .val (.double 13830554455654793216), .second, .val (.int (expOf b)), .val (.long b.toInt64), .second, .val (.long (maskOf b)), .second, .val (.double (cutOf b)), .second] [(.int (cmpValue (FP.dcmp (FP.dmul 13830554455654793216 b) 0) .l))])) _
  refine XS.ifYes A5 hx rfl rfl (hb hbyF dfo_115) rfl (XT.i0_le_t hle) (show (0 : Int) ≤ ((115 : Nat) : Int) + (10) by decide) (show (((115 : Nat) : Int) + (10)).toNat = 125 by decide) ?_
  show Steps p.tables e below ((own_V T vm5 (.java (mkF mF 0 #[.val (.double b), .second, .val (.double 13830554455654793216), .second, .val (.double 0), .second, .val (.double 13830554455654793216), .second, .unset, .unset, .unset, .unset, .unset, .unset, .unset] []) :: .java g :: B)).setTop (mkF mF 125 #[.val (.double b), .second, .val (.double 13830554455654793216), .second, .val (.double 0), .second, .val (.double 13830554455654793216), .second, .val (.int (expOf b)), .val (.long b.toInt64), .second, .val (.long (maskOf b)), .second, .val (.double (cutOf b)), .second] [])) _
  refine XS.dload A5 hx rfl (hb hbyF dfo_125) rfl ?_
  show Steps p.tables e below ((own_V T vm5 (.java (mkF mF 0 #[.val (.double b), .second, .val (.double 13830554455654793216), .second, .val (.double 0), .second, .val (.double 13830554455654793216), .second, .unset, .unset, .unset, .unset, .unset, .unset, .unset] []) :: .java g :: B)).setTop (mkF mF 127 #[.val (.double b), .second, .val (.double 13830554455654793216), .second, .val (.double 0), .second, .val (.double 13830554455654793216), .second, .val (.int (expOf b)), .val (.long b.toInt64), .second, .val (.long (maskOf b)), .second, .val (.double (cutOf b)), .second] [(.double (cutOf b))])) _
  exact own_ret A5 hx (by show vm5.method? mF = _; rw [hW5.alike.method?]; exact hmF) hlF hrF (Or.inr ⟨rfl, rfl, _, rfl⟩) (hb hbyF dfo_127) (own_V_frames hcur) (own_handJ (own_codeV hW5 hmg hcg) hdg)
end OwnFloorWalk
section OwnFloorTop
open Jvm.Free.Hsc Jvm.Free.Fl Jvm.FP Jvm.FP.Core
variable {p : Program} {l : Launch} {e : Env} {R : Room} {s : State} {m : MethodId} {args : Array Value} {below : List Frame} {meth : Method} {c : Code} {T : State} {locs : List Loc} {cells slots : Nat}
theorem own_foc (X : Stand p l e R s m args below meth c T locs cells slots) (hx : p.tables.exec = Jvm.exec) {Z : State} (hZ : Z.Warmed39 s.vm) {a0 : Array Value} (hw : ∀ d ∈ tables_1, d.before a0 Z = true) {vm : Vm} (hW : s.WarmedH vm) {B mid : List Frame} (hB : B = mid ++ below) (hroom : ∀ (xs : List Frame) (vm' : Vm) (vars : Nat) (u : State), xs.length ≤ 4 → stackWeight xs + vars ≤ 120 → u = own_V T vm' (xs ++ B) → e.platform.stackFull ((u.threads[u.cur]?).getD { frames := [] }) u.frames vars = false) {g : JFrame} {methg : Method} {cg : Code} {ig : Instr} (hmg : s.vm.method? g.method = some methg) (hcg : methg.code = some cg) (hdg : decode cg.code g.pc = .ok (ig, 3)) {mF : MethodId} {methF : Method} {cF : Code} (hnF : s.methodNamed? (⟨"java/lang/StrictMath", "floorOrCeil", "(DDDD)D"⟩ : MethodName) = some mF) (hmF : s.vm.method? mF = some methF) (hcF : methF.code = some cF) (hlF : methF.locks = false) (hrF : methF.sig.returnType = some .double) (hmlF : cF.maxLocals = 15) (hbyF : cF.code = jdk_128_method_18_code) {mG : MethodId} {methG : Method} {cG : Code} (hnG : s.methodNamed? (⟨"java/lang/Math", "getExponent", "(D)I"⟩ : MethodName) = some mG) (hmG : s.vm.method? mG = some methG) (hcG : methG.code = some cG) (hlG : methG.locks = false) (hrG : methG.sig.returnType = some .int) (hmlG : cG.maxLocals = 2) (hbyG : cG.code = jdk_29_method_92_code) (hgw : stackWeight [.java g] ≤ 30) {b : UInt64} (hb : b.toNat < 2 ^ 63) (hn : val64 b ≠ .nan) (hz : 0 < zval b64 (val64 b)) (hE : b.toNat / 2 ^ 52 < 1075) (S : Sta Z T.heap "java/lang/StrictMath" "$assertionsDisabled" "Z" (.int 1)) :
    ∃ vm', s.WarmedH vm' ∧ Steps p.tables e below (own_V T vm (.java (mkF mF 0 #[.val (.double b), .second, .val (.double 13830554455654793216), .second, .val (.double 0), .second, .val (.double 13830554455654793216), .second, .unset, .unset, .unset, .unset, .unset, .unset, .unset] []) :: .java g :: B)) (own_V T vm' (.java { g with pc := g.pc + 3, stack := .double (floorOf b) :: g.stack } :: B)) := by
  have hfin : Fin64 b := by
    rw [fin64_iff]
    have h1 := hb
    omega
  by_cases hlt : b.toNat / 2 ^ 52 < 1023
  · rw [own_floor_lt hb hn hz hlt]
    have h1 : FP.dcmp b 0 = some .gt := own_cmp0 hn hz
    exact own_foc1 X hx hZ hw hW hB hroom hmg hcg hdg hnF hmF hcF hlF hrF hmlF hbyF hnG hmG hcG hlG hrG hmlG hbyG hgw (by rw [own_exp hb]; exact own_lt1 hlt) (by rw [h1]; rfl) (by rw [h1]; rfl) S
  · obtain ⟨e1, he1⟩ : ∃ e1, b.toNat / 2 ^ 52 = 1023 + e1 := ⟨b.toNat / 2 ^ 52 - 1023, by omega⟩
    obtain ⟨g1, g2, -⟩ := own_ge1 ⟨e1, by omega⟩
    have hxe : expOf b = Int32.ofNat (1023 + e1) - 1023 := by rw [own_exp hb, he1]
    have n1 : ¬ expOf b < 0 := by rw [hxe]; exact g1
    have n2 : expOf b < 52 := by rw [hxe]; exact g2
    by_cases h0 : maskOf b &&& b.toInt64 = 0
    · have hv : floorOf b = b := by unfold floorOf focOf; rw [if_neg n1, if_neg (fun q => q n2), if_pos h0]
      rw [hv]
      exact own_foc2 X hx hZ hw hW hB hroom hmg hcg hdg hnF hmF hcF hlF hrF hmlF hbyF hnG hmG hcG hlG hrG hmlG hbyG hgw n1 n2 h0 S
    · have hlt' : FP.dcmp (FP.dmul 13830554455654793216 b) 0 = some .lt := own_cmpneg hn hz
      have hv : floorOf b = cutOf b := by
        unfold floorOf focOf
        rw [if_neg n1, if_neg (fun q => q n2), if_neg h0, show FP.dcmp (FP.dmul 0xBFF0000000000000 b) 0 = some .lt from hlt', if_pos (by decide)]
      rw [hv]
      have hc : NoNaN64 (cutOf b) := (cut_fin hfin).noNaN
      refine own_foc3 X hx hZ hw hW hB hroom hmg hcg hdg hnF hmF hcF hlF hrF hmlF hbyF hnG hmG hcG hlG hrG hmlG hbyG hgw n1 n2 h0 ?_ (dmul_out (by unfold Fin64; decide) hfin) (by rw [hlt']; decide) S
      rw [own_cutV]
      have : ¬ (cutOf b &&& 0x7fffffffffffffff > 0x7ff0000000000000) := fun q => absurd hc (UInt64.not_le.mpr q)
      simp [this]
theorem dsf_0 : decode jdk_128_method_17_code 0 = .ok (.dload_n 0, 1) := by decide +kernel
theorem dsf_1 : decode jdk_128_method_17_code 1 = .ok (.ldc2_w 64, 3) := by decide +kernel
theorem dsf_4 : decode jdk_128_method_17_code 4 = .ok (.dconst 0, 1) := by decide +kernel
theorem dsf_5 : decode jdk_128_method_17_code 5 = .ok (.ldc2_w 64, 3) := by decide +kernel
theorem dsf_8 : decode jdk_128_method_17_code 8 = .ok (.invokestatic 60, 3) := by decide +kernel
theorem dsf_11 : decode jdk_128_method_17_code 11 = .ok (.dreturn, 1) := by decide +kernel
set_option maxRecDepth 65536 in
set_option maxHeartbeats 8000000 in
theorem own_sf (X : Stand p l e R s m args below meth c T locs cells slots) (hx : p.tables.exec = Jvm.exec) {Z : State} (hZ : Z.Warmed39 s.vm) {a0 : Array Value} (hw : ∀ d ∈ tables_1, d.before a0 Z = true) {vm : Vm} (hW : s.WarmedH vm) {B mid : List Frame} (hB : B = mid ++ below) (hroom : ∀ (xs : List Frame) (vm' : Vm) (vars : Nat) (u : State), xs.length ≤ 4 → stackWeight xs + vars ≤ 140 → u = own_V T vm' (xs ++ B) → e.platform.stackFull ((u.threads[u.cur]?).getD { frames := [] }) u.frames vars = false) {mS : MethodId} {methS : Method} {cS : Code} (hnS : s.methodNamed? (⟨"java/lang/StrictMath", "floor", "(D)D"⟩ : MethodName) = some mS) (hmS : s.vm.method? mS = some methS) (hcS : methS.code = some cS) (hlS : methS.locks = false) (hrS : methS.sig.returnType = some .double) (hmlS : cS.maxLocals = 2) (hbyS : cS.code = jdk_128_method_17_code) {b : UInt64} (hb63 : b.toNat < 2 ^ 63) (hn : val64 b ≠ .nan) (hz : 0 < zval b64 (val64 b)) (hE : b.toNat / 2 ^ 52 < 1075) (S : Sta Z T.heap "java/lang/StrictMath" "$assertionsDisabled" "Z" (.int 1)) {N : NFrame} {B' : List Frame} (hBN : B = .native N :: B') :
    ∃ vm', s.WarmedH vm' ∧ Steps p.tables e below (own_V T vm (.java (mkF mS 0 #[.val (.double b), .second] []) :: B)) (own_V T vm' (.native { N with awaiting := false, answer := some (.returned (some (.double (floorOf b)))) } :: B')) := by
  have hcur := own_cur X
  have hown : s.vm.findClass "java/lang/StrictMath" = some mS.cls := findClass_of_methodNamed hnS
  have A0 : At (own_V T vm (.java (mkF mS 0 #[.val (.double b), .second] []) :: B)) mS cS below := own_at X hW (mid := mid) hB (by decide +kernel) hnS hmS hcS
  have wF := (mvT (args := args) hZ (hw _ (List.mem_of_getElem? (i := 58) rfl)))
  obtain ⟨mF, hnF⟩ := Cond.code_named (args := args) (s := s) wF
  obtain ⟨methF, cF, hmF, hcF, hbyF, hmlF, hrF, hlF, -, hdF⟩ := Cond.code_spec (args := args) hnF wF
  have wG := (mvT (args := args) hZ (hw _ (List.mem_of_getElem? (i := 61) rfl)))
  obtain ⟨mG, hnG⟩ := Cond.code_named (args := args) (s := s) wG
  obtain ⟨methG, cG, hmG, hcG, hbyG, hmlG, hrG, hlG, -, hdG⟩ := Cond.code_spec (args := args) hnG wG
  have hsF : methF.isStatic = true := Cond.static_spec (args := args) hnF hmF (mvT (args := args) hZ (hw _ (List.mem_of_getElem? (i := 57) rfl)))
  obtain ⟨kF, hkF, -⟩ := className_of_methodNamed hnF
  have hiF : kF.init = .initialized := Cond.initialized_spec (args := args) (findClass_of_methodNamed hnF) hkF (mvT (args := args) hZ (hw _ (List.mem_of_getElem? (i := 53) rfl)))
  have hpF : methF.sig.parameters.length = 4 := by
    have z8 : parseMethodDescriptor "(DDDD)D" = some { parameters := [.double, .double, .double, .double], returnType := some .double } := by decide +kernel
    rw [← Option.some.inj (z8.symm.trans hdF)]; rfl
  obtain ⟨vm1, hW1, st1⟩ := own_link (args := args) A0 hx X.admits hW hown (mvT (args := args) hZ (hw _ (List.mem_of_getElem? (i := 56) rfl))) hnF hmF hsF hkF hiF (by decide) (g := (mkF mS 8 #[.val (.double b), .second] [(.double 13830554455654793216), (.double 0), (.double 13830554455654793216), (.double b)])) rfl (argsL := [.double b, .double 13830554455654793216, .double 0, .double 13830554455654793216]) (rest := []) (by rw [hpF]; rfl) rfl (hb hbyS dsf_8)
  have hmF1 : vm1.method? mF = some methF := by rw [hW1.alike.method?]; exact hmF
  have hrm1 := hroom [.java (mkF mS 8 #[.val (.double b), .second] [])] vm1 cF.maxLocals (own_V T vm1 (.java (mkF mS 8 #[.val (.double b), .second] []) :: B)) (by simp) (by rw [hmlF, own_wcons]; show 11 + 2 + 2 * 0 + 0 + 0 + 15 ≤ 140; decide) rfl
  obtain ⟨vm2, hW2, st2⟩ := own_foc X hx hZ hw hW1 hB (fun xs vm' vars u q1 q2 q3 => hroom xs vm' vars u (by omega) (by omega) q3) (g := (mkF mS 8 #[.val (.double b), .second] [])) hmS hcS (hb hbyS dsf_8) hnF hmF hcF hlF hrF hmlF hbyF hnG hmG hcG hlG hrG hmlG hbyG (by rw [own_wcons]; show 11 + 2 + 2 * 0 + 0 + 0 ≤ 30; decide) hb63 hn hz hE S
  have A2 : At (own_V T vm2 (.java (mkF mS 0 #[.val (.double b), .second] []) :: B)) mS cS below := A0.setVm (hW.alike.symm.trans hW2.alike)
  refine ⟨vm2, hW2, ?_⟩
  have e0 : own_V T vm (.java (mkF mS 0 #[.val (.double b), .second] []) :: B) = (own_V T vm (.java (mkF mS 0 #[.val (.double b), .second] []) :: B)).setTop (mkF mS 0 #[.val (.double b), .second] []) := (own_V_top hcur).symm
  have e9 : own_V T vm2 (.native { N with awaiting := false, answer := some (.returned (some (.double (floorOf b)))) } :: B') = (own_V T vm2 (.java (mkF mS 0 #[.val (.double b), .second] []) :: B)).setFrames (.native { N with awaiting := false, answer := some (.returned (some (.double (floorOf b)))) } :: B') := own_V_set.symm
  rw [e0, e9]
  show Steps p.tables e below ((own_V T vm (.java (mkF mS 0 #[.val (.double b), .second] []) :: B)).setTop (mkF mS 0 #[.val (.double b), .second] [])) _
  refine XS.dloadN A0 hx rfl (hb hbyS dsf_0) rfl ?_
  show Steps p.tables e below ((own_V T vm (.java (mkF mS 0 #[.val (.double b), .second] []) :: B)).setTop (mkF mS 1 #[.val (.double b), .second] [(.double b)])) _
  refine own_ldcD (b := 13830554455654793216) (own := "java/lang/StrictMath") (index := 64) (g := (mkF mS 1 #[.val (.double b), .second] [(.double b)])) A0 hx hW hown (mvT (args := args) hZ (hw _ (List.mem_of_getElem? (i := 55) rfl))) rfl (hb hbyS dsf_1) ?_
  show Steps p.tables e below ((own_V T vm (.java (mkF mS 0 #[.val (.double b), .second] []) :: B)).setTop (mkF mS 4 #[.val (.double b), .second] [(.double 13830554455654793216), (.double b)])) _
  refine XS.dconst0 A0 hx rfl (hb hbyS dsf_4) rfl ?_
  show Steps p.tables e below ((own_V T vm (.java (mkF mS 0 #[.val (.double b), .second] []) :: B)).setTop (mkF mS 5 #[.val (.double b), .second] [(.double 0), (.double 13830554455654793216), (.double b)])) _
  refine own_ldcD (b := 13830554455654793216) (own := "java/lang/StrictMath") (index := 64) (g := (mkF mS 5 #[.val (.double b), .second] [(.double 0), (.double 13830554455654793216), (.double b)])) A0 hx hW hown (mvT (args := args) hZ (hw _ (List.mem_of_getElem? (i := 55) rfl))) rfl (hb hbyS dsf_5) ?_
  show Steps p.tables e below ((own_V T vm (.java (mkF mS 0 #[.val (.double b), .second] []) :: B)).setTop (mkF mS 8 #[.val (.double b), .second] [(.double 13830554455654793216), (.double 0), (.double 13830554455654793216), (.double b)])) _
  refine st1 _ fun acts => ?_
  rw [show (own_V T vm (.java (mkF mS 0 #[.val (.double b), .second] []) :: B)).setVm vm1 = own_V T vm1 (.java (mkF mS 0 #[.val (.double b), .second] []) :: B) from rfl, show ({ (mkF mS 8 #[.val (.double b), .second] [(.double 13830554455654793216), (.double 0), (.double 13830554455654793216), (.double b)]) with stack := [] } : JFrame) = (mkF mS 8 #[.val (.double b), .second] []) from rfl, own_enter hcur acts hmF1 hcF hlF (f' := (mkF mF 0 #[.val (.double b), .second, .val (.double 13830554455654793216), .second, .val (.double 0), .second, .val (.double 13830554455654793216), .second, .unset, .unset, .unset, .unset, .unset, .unset, .unset] [])) (by rw [hmlF]; rfl) hrm1]
  refine st2.trans ?_
  rw [← own_V_top hcur (f := (mkF mS 0 #[.val (.double b), .second] []))]
  show Steps p.tables e below ((own_V T vm2 (.java (mkF mS 0 #[.val (.double b), .second] []) :: B)).setTop (mkF mS 11 #[.val (.double b), .second] [(.double (floorOf b))])) _
  exact own_ret A2 hx (by show vm2.method? mS = _; rw [hW2.alike.method?]; exact hmS) hlS hrS (Or.inr ⟨rfl, rfl, _, rfl⟩) (hb hbyS dsf_11) (own_V_frames hcur) (by rw [hBN]; rfl)
set_option maxRecDepth 65536 in
set_option maxHeartbeats 8000000 in
theorem own_floor (X : Stand p l e R s m args below meth c T locs cells slots) (hx : p.tables.exec = Jvm.exec) {Z : State} (hZ : Z.Warmed39 s.vm) {a0 : Array Value} (hw : ∀ d ∈ tables_1, d.before a0 Z = true) {own : String} {index : Nat} (hown : s.vm.findClass own = some m.cls) (hlink : (Cond.methodLink own index (⟨"java/lang/Math", "floor", "(D)D"⟩ : MethodName)).before args s = true)
    {g : JFrame} (hg : g.method = m) (hsize : g.locals.size = c.maxLocals) (hmr : g.monitorRoom = 0) {b : UInt64} {rest : List Value} (hstack : g.stack = .double b :: rest) (hdg : decode c.code g.pc = .ok (.invokestatic index, 3)) (hb63 : b.toNat < 2 ^ 63) (hn : val64 b ≠ .nan) (hz : 0 < zval b64 (val64 b)) (hE : b.toNat / 2 ^ 52 < 1075)
    (S : Sta Z T.heap "java/lang/StrictMath" "$assertionsDisabled" "Z" (.int 1)) (hfr : 6 ≤ R.frames) (hlo : (rest.map fun v => v.category).sum + 155 ≤ R.locals) :
    ∃ T', Stand p l e R s m args below meth c T' locs cells slots ∧ T'.heap = T.heap ∧ ∀ target, Steps p.tables e below (T'.setTop { g with pc := g.pc + 3, stack := .double (floorOf b) :: rest }) target → Steps p.tables e below (T.setTop g) target := by
  have hcur := own_cur X
  have wM := (mvT (args := args) hZ (hw _ (List.mem_of_getElem? (i := 50) rfl)))
  obtain ⟨mk, hnM⟩ := Cond.code_named (args := args) (s := s) wM
  obtain ⟨methM, cM, hmM, hcM, -, hmlM, -, hlM, -, hdM⟩ := Cond.code_spec (args := args) hnM wM
  have hsM : methM.isStatic = true := Cond.static_spec (args := args) hnM hmM (mvT (args := args) hZ (hw _ (List.mem_of_getElem? (i := 48) rfl)))
  obtain ⟨kM, hkM, hkMn⟩ := className_of_methodNamed hnM
  have hiM : kM.init = .initialized := Cond.initialized_spec (args := args) (findClass_of_methodNamed hnM) hkM (mvT (args := args) hZ (hw _ (List.mem_of_getElem? (i := 49) rfl)))
  obtain ⟨hmn, hmd⟩ := name_of_methodNamed hnM hmM
  have hsig2 : parseMethodDescriptor "(D)D" = some { parameters := [.double], returnType := some .double } := by decide +kernel
  have hpM : methM.sig.parameters.length = 1 := by rw [← Option.some.inj (hsig2.symm.trans hdM)]; rfl
  obtain ⟨vm1, X1, st1⟩ := X.invokestatic hx hown hlink hnM hmM hsM hkM hiM (by decide) (g := g) hg (argsL := [.double b]) (rest := rest) (by rw [hpM]; rfl) hstack hdg
  have hW1 : s.WarmedH vm1 := X1.warmed
  have wS := (mvT (args := args) hZ (hw _ (List.mem_of_getElem? (i := 54) rfl)))
  obtain ⟨mS, hnS⟩ := Cond.code_named (args := args) (s := s) wS
  obtain ⟨methS, cS, hmS, hcS, hbyS, hmlS, hrS, hlS, -, -⟩ := Cond.code_spec (args := args) hnS wS
  obtain ⟨kS, hkS, -⟩ := className_of_methodNamed hnS
  have hiS : kS.init = .initialized := Cond.initialized_spec (args := args) (findClass_of_methodNamed hnS) hkS (mvT (args := args) hZ (hw _ (List.mem_of_getElem? (i := 53) rfl)))
  have hfS : s.vm.findClass "java/lang/StrictMath" = some mS.cls := findClass_of_methodNamed hnS
  have hfmS : kS.findMethod "floor" "(D)D" = some mS.idx := by
    have h := hnS
    simp only [State.methodNamed?, Option.bind_eq_bind, Option.pure_def] at h
    rw [hfS] at h
    simp only [Option.bind_some, hkS] at h
    cases hfm : kS.findMethod "floor" "(D)D" with
    | none => rw [hfm] at h; cases h
    | some j => rw [hfm] at h; simp at h; rw [← h]
  -- the tables at vm1
  obtain ⟨kM1, hkM1, ekM1⟩ := hW1.alike.2.2 _ _ hkM
  obtain ⟨kS1, hkS1, ekS1⟩ := hW1.alike.2.2 _ _ hkS
  have hmM1 : vm1.method? mk = some methM := by rw [hW1.alike.method?]; exact hmM
  have hmS1 : vm1.method? mS = some methS := by rw [hW1.alike.method?]; exact hmS
  have hxM1 : kM1.methods[mk.idx]? = some methM := by have h := hmM1; simpa [Vm.method?, hkM1] using h
  have hkn1 : kM1.name = "java/lang/Math" := by rw [ekM1]; exact hkMn
  have hboot1 : kM1.loader = none := by rw [ekM1]; exact (Vm.bootOf_findClass (findClass_of_methodNamed hnM) hkM : kM.loader = none)
  have hfS1 : vm1.findClass "java/lang/StrictMath" = some mS.cls := by rw [hW1.alike.findClass]; exact hfS
  have hiS1 : kS1.init = .initialized := by rw [ekS1]; exact hiS
  have hfmS1 : kS1.findMethod "floor" "(D)D" = some mS.idx := by rw [ekS1]; exact hfmS
  -- frames
  have hnat : ∀ F, (own_V T vm1 F).frames = F := fun F => own_V_frames hcur
  let gr : JFrame := { g with stack := rest }
  have hgr1 : gr.method = m := hg
  have hgrs : gr.locals.size = c.maxLocals := hsize
  have hgrm : gr.monitorRoom = 0 := hmr
  let N1 : NFrame := { method := mk, args := #[.double b], stage := 1, saved := #[], awaiting := true, answer := none, words := 0 }
  have hroomAll : ∀ (xs : List Frame) (vm' : Vm) (vars : Nat) (u : State), xs.length ≤ 4 → stackWeight xs + vars ≤ 140 → u = own_V T vm' (xs ++ .native N1 :: .java gr :: below) → e.platform.stackFull ((u.threads[u.cur]?).getD { frames := [] }) u.frames vars = false := fun xs vm' vars u q1 q2 q3 =>
    own_room X (g := gr) hgrs hgrm (N := N1) rfl (by omega) (by show stackWeight xs + (rest.map fun v => v.category).sum + vars + 11 ≤ R.locals; omega) q3
  obtain ⟨vm2, hW2, st2⟩ := own_sf X hx hZ hw hW1 (B := .native N1 :: .java gr :: below) (mid := [.native N1, .java gr]) rfl hroomAll hnS hmS hcS hlS hrS hmlS hbyS hb63 hn hz hE S (N := N1) (B' := .java gr :: below) rfl
  have X2 := X.noted hW2
  refine ⟨T.setVm vm2, X2, rfl, fun target k => st1 target fun acts => ?_⟩
  obtain ⟨g₀, hT⟩ := X.frames_eq
  have hT1 : (T.setVm vm1).frames = .java g₀ :: below := hT
  have htop1 : (T.setVm vm1).setTop gr = own_V T vm1 (.java gr :: below) := by rw [State.setTop_of_frames _ hT1]; rfl
  have hfull1 : e.platform.stackFull ((own_V T vm1 (.java gr :: below)).me) (own_V T vm1 (.java gr :: below)).frames cM.maxLocals = false := by
    have := X1.notFull (g := gr) hgrs (vars := cM.maxLocals) (by omega) (by rw [hmlM, hgrm]; show 2 * 0 + (rest.map fun v => v.category).sum + (2 + 11) ≤ R.locals; omega)
    rw [htop1] at this
    exact this
  show Steps p.tables e below (doInvoke e ((T.setVm vm1).setTop gr) acts mk #[.double b]).1 target
  rw [htop1, (doInvoke_java (s := own_V T vm1 (.java gr :: below)) (e := e) (acts := acts) (args := #[.double b]) (meth := methM) (code := cM) hmM1 hcM hlM hfull1).1, hmlM]
  have hpush : (own_V T vm1 (.java gr :: below)).pushFrame (.java { method := mk, pc := 0, locals := argsToLocals #[.double b] 2, stack := [], locked := none }) = own_V T vm1 (.java (entryFrame mk #[.double b] 2) :: .java gr :: below) := by
    unfold State.pushFrame
    rw [hnat, own_V_set]; rfl
  rw [hpush]
  have hgo : ∀ F, (own_V T vm1 F).status = .running ∧ (own_V T vm1 F).curStatus? = some .runnable ∧ (own_V T vm1 F).alone = true := fun F =>
    ⟨X.here.running, by show (T.setFrames F).curStatus? = _; rw [State.curStatus?_setFrames]; exact X.here.runnable, by show (T.setFrames F).alone = _; rw [State.alone_setFrames]; exact X.here.alone⟩
  have hgo2 : ∀ F, (own_V T vm2 F).status = .running ∧ (own_V T vm2 F).curStatus? = some .runnable ∧ (own_V T vm2 F).alone = true := fun F =>
    ⟨X.here.running, by show (T.setFrames F).curStatus? = _; rw [State.curStatus?_setFrames]; exact X.here.runnable, by show (T.setFrames F).alone = _; rw [State.alone_setFrames]; exact X.here.alone⟩
  have hov : overridden p.tables e (own_V T vm1 (.java (entryFrame mk #[.double b] 2) :: .java gr :: below)) (entryFrame mk #[.double b] 2) = some floorRow :=
    Jvm.Free.Fl.Abs.overridden_some (k := kM1) (x := methM) rfl hkM1 (by rw [hkn1]; decide) hboot1 hxM1 (by rw [hkn1, hmn, hmd]; exact floor_row p)
  obtain ⟨acts₂, hr2⟩ := floor_run b e (own_V T vm1 (.native { method := mk, args := #[.double b] } :: .java gr :: below)) (cS := mS.cls) (kS := kS1) (i := mS.idx) hfS1 hkS1 hiS1 hfmS1
  have htake : ∀ n : Nat, List.take (1 + n) [Value.double b] = [Value.double b] := fun n => List.take_of_length_le (Nat.le_add_right 1 n)
  have hstep2 : (stepThread p.tables e (own_V T vm1 (.java (entryFrame mk #[.double b] 2) :: .java gr :: below))).1 = (doInvoke e (own_V T vm1 (.native N1 :: .java gr :: below)) acts₂ mS #[.double b]).1 := by
    unfold stepThread
    simp only [hnat, hov]
    have hb2 : (vm1.classes[mk.cls]?.bind fun y => y.methods[mk.idx]?) = some methM := by simp [hkM1, hxM1]
    have hb3 : ∀ F, ((own_V T vm1 F).vm.classes[mk.cls]?.bind fun y => y.methods[mk.idx]?) = some methM := fun F => hb2
    have hw3 : ∀ F, (((own_V T vm1 F).vm.classes[mk.cls]?).bind fun k => Option.map (fun n => upcallWords k.name n.name) k.methods[mk.idx]?).getD 0 = 0 := fun F => by
      show ((vm1.classes[mk.cls]?).bind fun k => Option.map (fun n => upcallWords k.name n.name) k.methods[mk.idx]?).getD 0 = 0
      simp [hkM1, hxM1, hkn1, hmn, upcallWords]
    have hset : ∀ F G, (own_V T vm1 F).setFrames G = own_V T vm1 G := fun F G => own_V_set
    simp [entryFrame, argsToLocals, Value.category, argCount, hb3, hpM, htake, hset, hr2, afterNative, hw3, N1]
  refine Steps.head ⟨(hgo _).1, (hgo _).2.1, (hgo _).2.2⟩ ⟨[.java (entryFrame mk #[.double b] 2), .java gr], by rw [hnat]; rfl, by simp, by simp⟩ ?_
  rw [hstep2]
  have hfull2 := hroomAll [] vm1 cS.maxLocals (own_V T vm1 (.native N1 :: .java gr :: below)) (by simp) (by rw [hmlS]; show 0 + 2 ≤ 140; decide) rfl
  rw [(doInvoke_java (s := own_V T vm1 (.native N1 :: .java gr :: below)) (e := e) (acts := acts₂) (args := #[.double b]) (meth := methS) (code := cS) hmS1 hcS hlS hfull2).1, hmlS]
  have hpush2 : (own_V T vm1 (.native N1 :: .java gr :: below)).pushFrame (.java { method := mS, pc := 0, locals := argsToLocals #[.double b] 2, stack := [], locked := none }) = own_V T vm1 (.java (mkF mS 0 #[.val (.double b), .second] []) :: .native N1 :: .java gr :: below) := by
    unfold State.pushFrame
    rw [hnat, own_V_set]; rfl
  rw [hpush2]
  refine st2.trans ?_
  -- the entry goes on
  have hnat2 : ∀ F, (own_V T vm2 F).frames = F := fun F => own_V_frames hcur
  obtain ⟨kM2, hkM2, ekM2⟩ := hW2.alike.2.2 _ _ hkM
  have hmM2 : vm2.method? mk = some methM := by rw [hW2.alike.method?]; exact hmM
  have hxM2 : kM2.methods[mk.idx]? = some methM := by have h := hmM2; simpa [Vm.method?, hkM2] using h
  have hkn2 : kM2.name = "java/lang/Math" := by rw [ekM2]; exact hkMn
  have hboot2 : kM2.loader = none := by rw [ekM2]; exact (Vm.bootOf_findClass (findClass_of_methodNamed hnM) hkM : kM.loader = none)
  let N2 : NFrame := { N1 with awaiting := false, answer := some (.returned (some (.double (floorOf b)))) }
  have hnn : floorOf b &&& 0x7fffffffffffffff ≤ 0x7ff0000000000000 := floorOf_noNaN (by rw [ne_nan] at hn; rw [noNaN64_iff]; exact hn)
  obtain ⟨acts₃, hr3⟩ := floor_resume hnn e (own_V T vm2 (.native N2 :: .java gr :: below))
  have hcode2 : (own_V T vm2 (.native N2 :: .java gr :: below)).code? gr.method = some c := by rw [hgr1]; exact own_codeV hW2 X.method X.code
  have hfs : handOver (own_V T vm2 (.native N2 :: .java gr :: below)) (some (.double (floorOf b))) (.java gr :: below) = some (.java { gr with pc := gr.pc + 3, stack := .double (floorOf b) :: gr.stack } :: below) := own_handJ (ig := .invokestatic index) hcode2 hdg
  have hstep4 : (stepThread p.tables e (own_V T vm2 (.native N2 :: .java gr :: below))).1 = (own_V T vm2 (.native N2 :: .java gr :: below)).setFrames (.java { gr with pc := gr.pc + 3, stack := .double (floorOf b) :: gr.stack } :: below) := by
    rw [stepThread_resumed' (f := N2) (o := .returned (some (.double (floorOf b)))) (hnat2 _) hkM2 hboot2 hxM2 (by rw [hkn2, hmn, hmd]; exact floor_row p) rfl]
    show (afterNative e _ _ ((floorRow.resume 1 #[] (.returned (some (.double (floorOf b))))).run e _)).1 = _
    rw [hr3]
    exact doReturn_native (f := N2) (hnat2 _) rfl hfs
  refine Steps.head ⟨(hgo2 _).1, (hgo2 _).2.1, (hgo2 _).2.2⟩ ⟨[.native N2, .java gr], by rw [hnat2]; rfl, by simp, by simp⟩ ?_
  rw [hstep4, own_V_set]
  have hT2 : (T.setVm vm2).frames = .java g₀ :: below := hT
  have htop2 : (T.setVm vm2).setTop { g with pc := g.pc + 3, stack := .double (floorOf b) :: rest } = own_V T vm2 (.java { gr with pc := gr.pc + 3, stack := .double (floorOf b) :: gr.stack } :: below) := by rw [State.setTop_of_frames _ hT2]; rfl
  rw [← htop2]
  exact k
end OwnFloorTop
/-! ## The contracts (printed by gen460_body.py) -/
section OwnBody
open Jvm.Free.Hsc Jvm.Free.Fl Jvm.FP Jvm.Native.java_lang_Math.nans
def own_FC (Z : State) (h : Heap) (a : Addr) (c1 c2 c3 c4 : UInt64) : Prop := Exa Z h a "com/example/herring/herring/sim/FlowCapacity" ∧ Fld Z h a "com/example/herring/herring/sim/FlowCapacity" "carsPerSecond" "D" (.double c1) ∧ Fld Z h a "com/example/herring/herring/sim/FlowCapacity" "stretchStart" "D" (.double c2) ∧ Fld Z h a "com/example/herring/herring/sim/FlowCapacity" "turnsInStretch" "D" (.double c3) ∧ Fld Z h a "com/example/herring/herring/sim/FlowCapacity" "lastShare" "D" (.double c4)
def own_QV (w : Value) (h0 : Heap) (n0 : Nat) (v : Option Value) (h : Heap) (L : List Loc) : Prop := v = some w ∧ Fr n0 L ∧ h = h0
def own_QN (h0 : Heap) (n0 : Nat) (v : Option Value) (h : Heap) (L : List Loc) : Prop := v = none ∧ Fr n0 L ∧ h = h0
def own_QF (Z : State) (a : Addr) (c1 c2 c3 c4 : UInt64) (h0 : Heap) (n0 : Nat) (v : Option Value) (h : Heap) (L : List Loc) : Prop := v = none ∧ Fr n0 L ∧ Keep h0 h [a] ∧ own_FC Z h a c1 c2 c3 c4
theorem own_FC.keep {Z : State} {h h' : Heap} {a : Addr} {c1 c2 c3 c4 : UInt64} {xs : List Addr} (F : own_FC Z h a c1 c2 c3 c4) (K : Keep h h' xs) (q : a ∉ xs) : own_FC Z h' a c1 c2 c3 c4 := ⟨F.1.keep K, F.2.1.keep K q, F.2.2.1.keep K q, F.2.2.2.1.keep K q, F.2.2.2.2.keep K q⟩
theorem own_selT {s : State} {args : Array Value} {y z : MethodName} (hzc : z.cls = y.cls) (hsel : (Cond.selects y.cls z z).before args s = true) (hpriv : s.PrivateAt y) (hinst : (Cond.instanceMethod y).before args s = true) (hy : y.cls ≠ "java/lang/invoke/MethodHandle" ∧ y.cls ≠ "java/lang/invoke/VarHandle") : (Cond.selects y.cls y y).before args s = true := by
  obtain ⟨c2, r2, m2, q1, q2, q3, q4, kP, hkP, hkPi⟩ := Cond.selects_spec hsel
  have h1 : s.vm.findClass z.cls = some m2.cls := findClass_of_methodNamed q3
  rw [hzc] at h1
  exact selects_self_of_private h1 hkP hkPi hpriv hinst hy
theorem own_pn0 : plainName "com/example/herring/herring/sim/FlowCapacity" = true := by first | (simp [plainName, overriddenIn]; done) | decide +kernel
theorem d1_0 : decode prog_60_method_1_code 0 = .ok (.aload_n 0, 1) := by decide +kernel
theorem d1_1 : decode prog_60_method_1_code 1 = .ok (.invokespecial 1, 3) := by decide +kernel
theorem d1_4 : decode prog_60_method_1_code 4 = .ok (.return_, 1) := by decide +kernel
theorem own_ef_own_init (m : MethodId) (x0 : Addr) : entryFrame m #[(.ref x0)] 1 = mkF m 0 #[.val (.ref x0)] [] := by first | (simp [entryFrame, mkF, argsToLocals, Value.category]; done) | rfl
set_option maxRecDepth 65536 in
set_option maxHeartbeats 40000000 in
theorem own_init (l : Launch) (Z : State) (a0 : Array Value) (hw : ∀ d ∈ tables_1, d.before a0 Z = true) (ws : List Jvm.Cond) (a : Addr) (h0 : Heap) (n0 : Nat) (Z0 : n0 ≤ h0.size)  :
    MetFree l (⟨"com/example/herring/herring/sim/FlowCapacity", "<init>", "()V"⟩ : MethodName) (head1 (Jvm.Cond.code (⟨"com/example/herring/herring/sim/FlowCapacity", "<init>", "()V"⟩ : MethodName) prog_60_method_1_code 1 none :: ws) ({ frames := 1, cells := 0, slots := 0, locals := 12 } : Room)) (fun av U => av = #[(.ref a)] ∧ Z.Warmed39 U.vm ∧ U.heap = h0) (fun _ _ _ _ _ => True) (fun _ U o U' => ∃ v L, o = .returned v ∧ own_QN h0 n0 v U'.heap L ∧ FrameEnd U o U' L ({ frames := 1, cells := 0, slots := 0, locals := 12 } : Room).cells ({ frames := 1, cells := 0, slots := 0, locals := 12 } : Room).slots) := by
  refine MetFree.of_bodySF (plainFor_of_name own_pn0) hisR ?_
  intro p e s m args below meth c s₁ Bd hml0 hP hK
  obtain ⟨rfl, hZ, hh⟩ := hP
  have hx := Bd.exec
  have hby := Bd.bytes
  have hml : c.maxLocals = 1 := hml0
  have hown : s.vm.findClass "com/example/herring/herring/sim/FlowCapacity" = some m.cls := findClass_of_methodNamed Bd.named
  have hnm := (name_of_methodNamed Bd.named Bd.method).1
  have X0 : Stand p l e ({ frames := 1, cells := 0, slots := 0, locals := 12 } : Room) s m #[(.ref a)] below meth c s₁ [] 0 0 := Stand.of_body Bd
  have e0 : s₁.heap = h0 := by rw [← hh, Bd.state]; rfl
  have N0 := Fr.nil n0
  have pre0 : ∀ t, Steps p.tables e below (s₁.setTop (mkF m 0 #[.val (.ref a)] [])) t → Steps p.tables e below (s₁.setTop (entryFrame m #[(.ref a)] 1)) t := fun t k => castTop (own_ef_own_init m a) k
  obtain ⟨T1, X1, e1, st1⟩ := initO X0 hx hZ hown (hw _ (List.mem_of_getElem? (i := 7) rfl)) (hw _ (List.mem_of_getElem? (i := 8) rfl)) (hw _ (List.mem_of_getElem? (i := 9) rfl)) e0 (g := (mkF m 1 #[.val (.ref a)] [(.ref a)])) rfl (by rw [hml]; rfl) rfl (hb hby d1_1) (by decide) (W := 0) (by show 2 * 0 + _ ≤ _; exact Nat.le_of_eq rfl) (by decide)
  obtain ⟨fs, hr, hrun, hended, hW, hsame⟩ := X1.leave (v := none) (fun _ => rfl)
  refine ⟨_, _, pre0 _ ?_, hrun, hended, _, _, rfl, ?_, ⟨_, rfl⟩, hW, hsame.mono (by decide) (by decide)⟩
  · show Steps p.tables e below (s₁.setTop (mkF m 0 #[.val (.ref a)] [])) _
    refine XS.aloadN X0.here hx rfl (hb hby d1_0) rfl rfl ?_
    show Steps p.tables e below (s₁.setTop (mkF m 1 #[.val (.ref a)] [(.ref a)])) _
    refine st1 _ ?_
    show Steps p.tables e below (T1.setTop (mkF m 4 #[.val (.ref a)] [])) _
    exact X1.returnOut hx Bd.returns (hb hby d1_4) hr
  · show own_QN h0 n0 _ T1.heap _
    exact ⟨rfl, N0, e1⟩
theorem own_pn1 : plainName "com/example/herring/herring/sim/FlowCapacitySetCarsPerSecondPinLaw" = true := by first | (simp [plainName, overriddenIn]; done) | decide +kernel
theorem d3_0 : decode method_2_code 0 = .ok (.iload_n 0, 1) := by decide +kernel
theorem d3_1 : decode method_2_code 1 = .ok (.bipush 7, 2) := by decide +kernel
theorem d3_3 : decode method_2_code 3 = .ok (.if_icmp .ne 7, 3) := by decide +kernel
theorem d3_6 : decode method_2_code 6 = .ok (.dconst 0, 1) := by decide +kernel
theorem d3_7 : decode method_2_code 7 = .ok (.goto 11, 3) := by decide +kernel
theorem d3_18 : decode method_2_code 18 = .ok (.dreturn, 1) := by decide +kernel
theorem own_ef_own_rate7 (m : MethodId) (x0 : Int32) : entryFrame m #[(.int x0)] 1 = mkF m 0 #[.val (.int x0)] [] := by first | (simp [entryFrame, mkF, argsToLocals, Value.category]; done) | rfl
set_option maxRecDepth 65536 in
set_option maxHeartbeats 40000000 in
theorem own_rate7 (l : Launch) (Z : State) (a0 : Array Value) (hw : ∀ d ∈ tables_1, d.before a0 Z = true) (ws : List Jvm.Cond) (x : Int32) (hx7 : x = 7) (h0 : Heap) (n0 : Nat) (Z0 : n0 ≤ h0.size)  :
    MetFree l (⟨"com/example/herring/herring/sim/FlowCapacitySetCarsPerSecondPinLaw", "rate", "(I)D"⟩ : MethodName) (head1 (Jvm.Cond.code (⟨"com/example/herring/herring/sim/FlowCapacitySetCarsPerSecondPinLaw", "rate", "(I)D"⟩ : MethodName) method_2_code 1 (some .double) :: ws) ({ frames := 0, cells := 0, slots := 0, locals := 0 } : Room)) (fun av U => av = #[(.int x)] ∧ Z.Warmed39 U.vm ∧ U.heap = h0) (fun _ _ _ _ _ => True) (fun _ U o U' => ∃ v L, o = .returned v ∧ own_QV (.double 0) h0 n0 v U'.heap L ∧ FrameEnd U o U' L ({ frames := 0, cells := 0, slots := 0, locals := 0 } : Room).cells ({ frames := 0, cells := 0, slots := 0, locals := 0 } : Room).slots) := by
  refine MetFree.of_bodySF (plainFor_of_name own_pn1) hisR ?_
  intro p e s m args below meth c s₁ Bd hml0 hP hK
  obtain ⟨rfl, hZ, hh⟩ := hP
  have hx := Bd.exec
  have hby := Bd.bytes
  have hml : c.maxLocals = 1 := hml0
  have hown : s.vm.findClass "com/example/herring/herring/sim/FlowCapacitySetCarsPerSecondPinLaw" = some m.cls := findClass_of_methodNamed Bd.named
  have hnm := (name_of_methodNamed Bd.named Bd.method).1
  have X0 : Stand p l e ({ frames := 0, cells := 0, slots := 0, locals := 0 } : Room) s m #[(.int x)] below meth c s₁ [] 0 0 := Stand.of_body Bd
  have e0 : s₁.heap = h0 := by rw [← hh, Bd.state]; rfl
  have N0 := Fr.nil n0
  have pre0 : ∀ t, Steps p.tables e below (s₁.setTop (mkF m 0 #[.val (.int x)] [])) t → Steps p.tables e below (s₁.setTop (entryFrame m #[(.int x)] 1)) t := fun t k => castTop (own_ef_own_rate7 m x) k
  obtain ⟨fs, hr, hrun, hended, hW, hsame⟩ := X0.leave (v := some (.double 0)) (fun h => by rw [Bd.returns] at h; cases h)
  refine ⟨_, _, pre0 _ ?_, hrun, hended, _, _, rfl, ?_, ⟨_, rfl⟩, hW, hsame.mono (by decide) (by decide)⟩
  · show Steps p.tables e below (s₁.setTop (mkF m 0 #[.val (.int x)] [])) _
    refine XS.iloadN X0.here hx rfl (hb hby d3_0) rfl ?_
    show Steps p.tables e below (s₁.setTop (mkF m 1 #[.val (.int x)] [(.int x)])) _
    refine XT.bipushV X0.here hx rfl 7 (hb hby d3_1) (by decide) ?_
    show Steps p.tables e below (s₁.setTop (mkF m 3 #[.val (.int x)] [(.int 7), (.int x)])) _
    refine XS.icmpNo X0.here hx rfl (hb hby d3_3) rfl (XT.ii_ne_f hx7) ?_
    show Steps p.tables e below (s₁.setTop (mkF m 6 #[.val (.int x)] [])) _
    refine XS.dconst0 X0.here hx rfl (hb hby d3_6) rfl ?_
    show Steps p.tables e below (s₁.setTop (mkF m 7 #[.val (.int x)] [(.double 0)])) _
    refine XS.goto X0.here hx rfl rfl (hb hby d3_7) (show (0 : Int) ≤ ((7 : Nat) : Int) + (11) by decide) (show (((7 : Nat) : Int) + (11)).toNat = 18 by decide) ?_
    show Steps p.tables e below (s₁.setTop (mkF m 18 #[.val (.int x)] [(.double 0)])) _
    exact retOut X0 hx Bd.returns rfl (Or.inr (Or.inr (Or.inl ⟨rfl, rfl, _, rfl⟩))) (hb hby d3_18) hr
  · show own_QV (.double 0) h0 n0 _ s₁.heap _
    exact ⟨rfl, N0, e0⟩
theorem d3_10 : decode method_2_code 10 = .ok (.iconst 1, 1) := by decide +kernel
theorem d3_11 : decode method_2_code 11 = .ok (.iload_n 0, 1) := by decide +kernel
theorem d3_12 : decode method_2_code 12 = .ok (.ishl, 1) := by decide +kernel
theorem d3_13 : decode method_2_code 13 = .ok (.i2d, 1) := by decide +kernel
theorem d3_14 : decode method_2_code 14 = .ok (.ldc2_w 7, 3) := by decide +kernel
theorem d3_17 : decode method_2_code 17 = .ok (.dmul, 1) := by decide +kernel
theorem own_ef_own_rate (m : MethodId) (x0 : Int32) : entryFrame m #[(.int x0)] 1 = mkF m 0 #[.val (.int x0)] [] := by first | (simp [entryFrame, mkF, argsToLocals, Value.category]; done) | rfl
set_option maxRecDepth 65536 in
set_option maxHeartbeats 40000000 in
theorem own_rate (l : Launch) (Z : State) (a0 : Array Value) (hw : ∀ d ∈ tables_1, d.before a0 Z = true) (ws : List Jvm.Cond) (x : Int32) (q : UInt64) (hx7 : ¬ x = 7) (hq : FP.dmul (FP.i2d ((1 : Int32) <<< (x &&& 31))) 4598175219545276416 = q) (hn : NoNaN64 q) (h0 : Heap) (n0 : Nat) (Z0 : n0 ≤ h0.size)  :
    MetFree l (⟨"com/example/herring/herring/sim/FlowCapacitySetCarsPerSecondPinLaw", "rate", "(I)D"⟩ : MethodName) (head1 (Jvm.Cond.code (⟨"com/example/herring/herring/sim/FlowCapacitySetCarsPerSecondPinLaw", "rate", "(I)D"⟩ : MethodName) method_2_code 1 (some .double) :: ws) ({ frames := 0, cells := 0, slots := 0, locals := 0 } : Room)) (fun av U => av = #[(.int x)] ∧ Z.Warmed39 U.vm ∧ U.heap = h0) (fun _ _ _ _ _ => True) (fun _ U o U' => ∃ v L, o = .returned v ∧ own_QV (.double q) h0 n0 v U'.heap L ∧ FrameEnd U o U' L ({ frames := 0, cells := 0, slots := 0, locals := 0 } : Room).cells ({ frames := 0, cells := 0, slots := 0, locals := 0 } : Room).slots) := by
  refine MetFree.of_bodySF (plainFor_of_name own_pn1) hisR ?_
  intro p e s m args below meth c s₁ Bd hml0 hP hK
  obtain ⟨rfl, hZ, hh⟩ := hP
  have hx := Bd.exec
  have hby := Bd.bytes
  have hml : c.maxLocals = 1 := hml0
  have hown : s.vm.findClass "com/example/herring/herring/sim/FlowCapacitySetCarsPerSecondPinLaw" = some m.cls := findClass_of_methodNamed Bd.named
  have hnm := (name_of_methodNamed Bd.named Bd.method).1
  have X0 : Stand p l e ({ frames := 0, cells := 0, slots := 0, locals := 0 } : Room) s m #[(.int x)] below meth c s₁ [] 0 0 := Stand.of_body Bd
  have e0 : s₁.heap = h0 := by rw [← hh, Bd.state]; rfl
  have N0 := Fr.nil n0
  have pre0 : ∀ t, Steps p.tables e below (s₁.setTop (mkF m 0 #[.val (.int x)] [])) t → Steps p.tables e below (s₁.setTop (entryFrame m #[(.int x)] 1)) t := fun t k => castTop (own_ef_own_rate m x) k
  obtain ⟨fs, hr, hrun, hended, hW, hsame⟩ := X0.leave (v := some (.double q)) (fun h => by rw [Bd.returns] at h; cases h)
  refine ⟨_, _, pre0 _ ?_, hrun, hended, _, _, rfl, ?_, ⟨_, rfl⟩, hW, hsame.mono (by decide) (by decide)⟩
  · show Steps p.tables e below (s₁.setTop (mkF m 0 #[.val (.int x)] [])) _
    refine XS.iloadN X0.here hx rfl (hb hby d3_0) rfl ?_
    show Steps p.tables e below (s₁.setTop (mkF m 1 #[.val (.int x)] [(.int x)])) _
    refine XT.bipushV X0.here hx rfl 7 (hb hby d3_1) (by decide) ?_
    show Steps p.tables e below (s₁.setTop (mkF m 3 #[.val (.int x)] [(.int 7), (.int x)])) _
    refine XS.icmpYes X0.here hx rfl rfl (hb hby d3_3) rfl (XT.ii_ne_t hx7) (show (0 : Int) ≤ ((3 : Nat) : Int) + (7) by decide) (show (((3 : Nat) : Int) + (7)).toNat = 10 by decide) ?_
    show Steps p.tables e below (s₁.setTop (mkF m 10 #[.val (.int x)] [])) _
    refine XT.iconstV X0.here hx rfl 1 (hb hby d3_10) rfl ?_
    show Steps p.tables e below (s₁.setTop (mkF m 11 #[.val (.int x)] [(.int 1)])) _
    refine XS.iloadN X0.here hx rfl (hb hby d3_11) rfl ?_
    show Steps p.tables e below (s₁.setTop (mkF m 12 #[.val (.int x)] [(.int x), (.int 1)])) _
    refine XT.ishl X0.here hx rfl (hb hby d3_12) rfl ?_
    show Steps p.tables e below (s₁.setTop (mkF m 13 #[.val (.int x)] [(.int ((1 : Int32) <<< (x &&& 31)))])) _
    refine XS.i2dS X0.here hx rfl (hb hby d3_13) rfl rfl ?_
    show Steps p.tables e below (s₁.setTop (mkF m 14 #[.val (.int x)] [(.double (FP.i2d ((1 : Int32) <<< (x &&& 31))))])) _
    refine X0.ldc2DoubleC hx hown (mvT hZ (hw _ (List.mem_of_getElem? (i := 14) rfl))) (g := (mkF m 14 #[.val (.int x)] [(.double (FP.i2d ((1 : Int32) <<< (x &&& 31))))])) rfl (hb hby d3_14) _ ?_
    show Steps p.tables e below (s₁.setTop (mkF m 17 #[.val (.int x)] [(.double 4598175219545276416), (.double (FP.i2d ((1 : Int32) <<< (x &&& 31))))])) _
    refine XS.dmulS X0.here hx rfl (hb hby d3_17) rfl (by rw [hq]; exact hn) hq ?_
    show Steps p.tables e below (s₁.setTop (mkF m 18 #[.val (.int x)] [(.double q)])) _
    exact retOut X0 hx Bd.returns rfl (Or.inr (Or.inr (Or.inl ⟨rfl, rfl, _, rfl⟩))) (hb hby d3_18) hr
  · show own_QV (.double q) h0 n0 _ s₁.heap _
    exact ⟨rfl, N0, e0⟩
theorem d16_0 : decode method_3_code 0 = .ok (.iload_n 0, 1) := by decide +kernel
theorem d16_1 : decode method_3_code 1 = .ok (.i2l, 1) := by decide +kernel
theorem d16_2 : decode method_3_code 2 = .ok (.bipush 6, 2) := by decide +kernel
theorem d16_4 : decode method_3_code 4 = .ok (.iload_n 1, 1) := by decide +kernel
theorem d16_5 : decode method_3_code 5 = .ok (.isub, 1) := by decide +kernel
theorem d16_6 : decode method_3_code 6 = .ok (.lshl, 1) := by decide +kernel
theorem d16_7 : decode method_3_code 7 = .ok (.lreturn, 1) := by decide +kernel
theorem own_ef_own_piece (m : MethodId) (x0 : Int32) (x1 : Int32) : entryFrame m #[(.int x0), (.int x1)] 2 = mkF m 0 #[.val (.int x0), .val (.int x1)] [] := by first | (simp [entryFrame, mkF, argsToLocals, Value.category]; done) | rfl
set_option maxRecDepth 65536 in
set_option maxHeartbeats 40000000 in
theorem own_piece (l : Launch) (Z : State) (a0 : Array Value) (hw : ∀ d ∈ tables_1, d.before a0 Z = true) (ws : List Jvm.Cond) (x y : Int32) (h0 : Heap) (n0 : Nat) (Z0 : n0 ≤ h0.size)  :
    MetFree l (⟨"com/example/herring/herring/sim/FlowCapacitySetCarsPerSecondPinLaw", "piece", "(II)J"⟩ : MethodName) (head1 (Jvm.Cond.code (⟨"com/example/herring/herring/sim/FlowCapacitySetCarsPerSecondPinLaw", "piece", "(II)J"⟩ : MethodName) method_3_code 2 (some .long) :: ws) ({ frames := 0, cells := 0, slots := 0, locals := 0 } : Room)) (fun av U => av = #[(.int x), (.int y)] ∧ Z.Warmed39 U.vm ∧ U.heap = h0) (fun _ _ _ _ _ => True) (fun _ U o U' => ∃ v L, o = .returned v ∧ own_QV (.long (x.toInt64 <<< ((6 - y).toInt64 &&& 63))) h0 n0 v U'.heap L ∧ FrameEnd U o U' L ({ frames := 0, cells := 0, slots := 0, locals := 0 } : Room).cells ({ frames := 0, cells := 0, slots := 0, locals := 0 } : Room).slots) := by
  refine MetFree.of_bodySF (plainFor_of_name own_pn1) hisR ?_
  intro p e s m args below meth c s₁ Bd hml0 hP hK
  obtain ⟨rfl, hZ, hh⟩ := hP
  have hx := Bd.exec
  have hby := Bd.bytes
  have hml : c.maxLocals = 2 := hml0
  have hown : s.vm.findClass "com/example/herring/herring/sim/FlowCapacitySetCarsPerSecondPinLaw" = some m.cls := findClass_of_methodNamed Bd.named
  have hnm := (name_of_methodNamed Bd.named Bd.method).1
  have X0 : Stand p l e ({ frames := 0, cells := 0, slots := 0, locals := 0 } : Room) s m #[(.int x), (.int y)] below meth c s₁ [] 0 0 := Stand.of_body Bd
  have e0 : s₁.heap = h0 := by rw [← hh, Bd.state]; rfl
  have N0 := Fr.nil n0
  have pre0 : ∀ t, Steps p.tables e below (s₁.setTop (mkF m 0 #[.val (.int x), .val (.int y)] [])) t → Steps p.tables e below (s₁.setTop (entryFrame m #[(.int x), (.int y)] 2)) t := fun t k => castTop (own_ef_own_piece m x y) k
  obtain ⟨fs, hr, hrun, hended, hW, hsame⟩ := X0.leave (v := some (.long (x.toInt64 <<< ((6 - y).toInt64 &&& 63)))) (fun h => by rw [Bd.returns] at h; cases h)
  refine ⟨_, _, pre0 _ ?_, hrun, hended, _, _, rfl, ?_, ⟨_, rfl⟩, hW, hsame.mono (by decide) (by decide)⟩
  · show Steps p.tables e below (s₁.setTop (mkF m 0 #[.val (.int x), .val (.int y)] [])) _
    refine XS.iloadN X0.here hx rfl (hb hby d16_0) rfl ?_
    show Steps p.tables e below (s₁.setTop (mkF m 1 #[.val (.int x), .val (.int y)] [(.int x)])) _
    refine XT.i2l X0.here hx rfl (hb hby d16_1) rfl ?_
    show Steps p.tables e below (s₁.setTop (mkF m 2 #[.val (.int x), .val (.int y)] [(.long x.toInt64)])) _
    refine XT.bipushV X0.here hx rfl 6 (hb hby d16_2) (by decide) ?_
    show Steps p.tables e below (s₁.setTop (mkF m 4 #[.val (.int x), .val (.int y)] [(.int 6), (.long x.toInt64)])) _
    refine XS.iloadN X0.here hx rfl (hb hby d16_4) rfl ?_
    show Steps p.tables e below (s₁.setTop (mkF m 5 #[.val (.int x), .val (.int y)] [(.int y), (.int 6), (.long x.toInt64)])) _
    refine XS.isub X0.here hx rfl (hb hby d16_5) rfl ?_
    show Steps p.tables e below (s₁.setTop (mkF m 6 #[.val (.int x), .val (.int y)] [(.int (6 - y)), (.long x.toInt64)])) _
    refine XT.lshl X0.here hx rfl (hb hby d16_6) rfl ?_
    show Steps p.tables e below (s₁.setTop (mkF m 7 #[.val (.int x), .val (.int y)] [(.long (x.toInt64 <<< ((6 - y).toInt64 &&& 63)))])) _
    exact retOut X0 hx Bd.returns rfl (Or.inr (Or.inl ⟨rfl, rfl, _, rfl⟩)) (hb hby d16_7) hr
  · show own_QV (.long (x.toInt64 <<< ((6 - y).toInt64 &&& 63))) h0 n0 _ s₁.heap _
    exact ⟨rfl, N0, e0⟩
theorem own_pd0 : parseMethodDescriptor "(DD)D" = some ⟨[.double, .double], some .double⟩ := by decide +kernel
theorem own_pn2 : plainName "com/example/herring/herring/sim/Rounding" = true := by first | (simp [plainName, overriddenIn]; done) | decide +kernel
theorem d13_0 : decode prog_66_method_4_code 0 = .ok (.ldc2_w 26, 3) := by decide +kernel
theorem d13_3 : decode prog_66_method_4_code 3 = .ok (.dconst 0, 1) := by decide +kernel
theorem d13_4 : decode prog_66_method_4_code 4 = .ok (.dload_n 0, 1) := by decide +kernel
theorem d13_5 : decode prog_66_method_4_code 5 = .ok (.invokestatic 28, 3) := by decide +kernel
theorem d13_8 : decode prog_66_method_4_code 8 = .ok (.invokestatic 32, 3) := by decide +kernel
theorem d13_11 : decode prog_66_method_4_code 11 = .ok (.d2i, 1) := by decide +kernel
theorem d13_12 : decode prog_66_method_4_code 12 = .ok (.ireturn, 1) := by decide +kernel
theorem own_ef_own_clampM (m : MethodId) (x0 : UInt64) : entryFrame m #[(.double x0)] 2 = mkF m 0 #[.val (.double x0), .second] [] := by first | (simp [entryFrame, mkF, argsToLocals, Value.category]; done) | rfl
set_option maxRecDepth 65536 in
set_option maxHeartbeats 40000000 in
theorem own_clampM (l : Launch) (Z : State) (a0 : Array Value) (hw : ∀ d ∈ tables_1, d.before a0 Z = true) (ws : List Jvm.Cond) (x : UInt64) (i : Int32) (hn : NoNaN64 x) (hn2 : NoNaN64 (pick64 true 0 x)) (hi : FP.d2i (pick64 false 4746794007244308480 (pick64 true 0 x)) = i) (h0 : Heap) (n0 : Nat) (Z0 : n0 ≤ h0.size)  :
    MetFree l (⟨"com/example/herring/herring/sim/Rounding", "clamp", "(D)I"⟩ : MethodName) (head1 (Jvm.Cond.code (⟨"com/example/herring/herring/sim/Rounding", "clamp", "(D)I"⟩ : MethodName) prog_66_method_4_code 2 (some .int) :: ws) ({ frames := 1, cells := 0, slots := 0, locals := 17 } : Room)) (fun av U => av = #[(.double x)] ∧ Z.Warmed39 U.vm ∧ U.heap = h0) (fun _ _ _ _ _ => True) (fun _ U o U' => ∃ v L, o = .returned v ∧ own_QV (.int i) h0 n0 v U'.heap L ∧ FrameEnd U o U' L ({ frames := 1, cells := 0, slots := 0, locals := 17 } : Room).cells ({ frames := 1, cells := 0, slots := 0, locals := 17 } : Room).slots) := by
  refine MetFree.of_bodySF (plainFor_of_name own_pn2) hisR ?_
  intro p e s m args below meth c s₁ Bd hml0 hP hK
  obtain ⟨rfl, hZ, hh⟩ := hP
  have hx := Bd.exec
  have hby := Bd.bytes
  have hml : c.maxLocals = 2 := hml0
  have hown : s.vm.findClass "com/example/herring/herring/sim/Rounding" = some m.cls := findClass_of_methodNamed Bd.named
  have hnm := (name_of_methodNamed Bd.named Bd.method).1
  have X0 : Stand p l e ({ frames := 1, cells := 0, slots := 0, locals := 17 } : Room) s m #[(.double x)] below meth c s₁ [] 0 0 := Stand.of_body Bd
  have e0 : s₁.heap = h0 := by rw [← hh, Bd.state]; rfl
  have N0 := Fr.nil n0
  have pre0 : ∀ t, Steps p.tables e below (s₁.setTop (mkF m 0 #[.val (.double x), .second] [])) t → Steps p.tables e below (s₁.setTop (entryFrame m #[(.double x)] 2)) t := fun t k => castTop (own_ef_own_clampM m x) k
  obtain ⟨T1, X1, e1, st1⟩ := natS X0 hx hZ hown (hw _ (List.mem_of_getElem? (i := 72) rfl)) (hw _ (List.mem_of_getElem? (i := 73) rfl)) (hw _ (List.mem_of_getElem? (i := 49) rfl)) (hw _ (List.mem_of_getElem? (i := 74) rfl)) (by decide) e0 (W := 2) (fun c4 => Jvm.Free.Fl.Abs.maxD_pays 0 x c4 (by decide) (by decide)) (g := (mkF m 5 #[.val (.double x), .second] [(.double x), (.double 0), (.double 4746794007244308480)])) rfl (by rw [hml]; rfl) (argsL := [(.double 0), (.double x)]) (rest := [(.double 4746794007244308480)]) (lenOf own_pd0 rfl) rfl (by show 2 * 0 + _ ≤ _; exact Nat.le_of_eq rfl) (hb hby d13_5) (Nat.zero_le _) (Nat.zero_le _) ⟨rfl, (by unfold NoNaN64; decide), hn⟩ rfl
  obtain ⟨T2, X2, e2, st2⟩ := natS X1 hx hZ hown (hw _ (List.mem_of_getElem? (i := 75) rfl)) (hw _ (List.mem_of_getElem? (i := 76) rfl)) (hw _ (List.mem_of_getElem? (i := 49) rfl)) (hw _ (List.mem_of_getElem? (i := 77) rfl)) (by decide) e1 (W := 0) (fun c4 => Jvm.Free.Fl.Abs.minD_pays 4746794007244308480 (pick64 true 0 x) c4 (by decide) (by decide)) (g := (mkF m 8 #[.val (.double x), .second] [(.double (pick64 true 0 x)), (.double 4746794007244308480)])) rfl (by rw [hml]; rfl) (argsL := [(.double 4746794007244308480), (.double (pick64 true 0 x))]) (rest := []) (lenOf own_pd0 rfl) rfl (by show 2 * 0 + _ ≤ _; exact Nat.le_of_eq rfl) (hb hby d13_8) (Nat.zero_le _) (Nat.zero_le _) ⟨rfl, (by unfold NoNaN64; decide), hn2⟩ rfl
  obtain ⟨fs, hr, hrun, hended, hW, hsame⟩ := X2.leave (v := some (.int i)) (fun h => by rw [Bd.returns] at h; cases h)
  refine ⟨_, _, pre0 _ ?_, hrun, hended, _, _, rfl, ?_, ⟨_, rfl⟩, hW, hsame.mono (by decide) (by decide)⟩
  · show Steps p.tables e below (s₁.setTop (mkF m 0 #[.val (.double x), .second] [])) _
    refine X0.ldc2DoubleC hx hown (mvT hZ (hw _ (List.mem_of_getElem? (i := 71) rfl))) (g := (mkF m 0 #[.val (.double x), .second] [])) rfl (hb hby d13_0) _ ?_
    show Steps p.tables e below (s₁.setTop (mkF m 3 #[.val (.double x), .second] [(.double 4746794007244308480)])) _
    refine XS.dconst0 X0.here hx rfl (hb hby d13_3) rfl ?_
    show Steps p.tables e below (s₁.setTop (mkF m 4 #[.val (.double x), .second] [(.double 0), (.double 4746794007244308480)])) _
    refine XS.dloadN X0.here hx rfl (hb hby d13_4) rfl ?_
    show Steps p.tables e below (s₁.setTop (mkF m 5 #[.val (.double x), .second] [(.double x), (.double 0), (.double 4746794007244308480)])) _
    refine st1 _ ?_
    show Steps p.tables e below (T1.setTop (mkF m 8 #[.val (.double x), .second] [(.double (pick64 true 0 x)), (.double 4746794007244308480)])) _
    refine st2 _ ?_
    show Steps p.tables e below (T2.setTop (mkF m 11 #[.val (.double x), .second] [(.double (pick64 false 4746794007244308480 (pick64 true 0 x)))])) _
    refine XS.d2iS X2.here hx rfl (hb hby d13_11) rfl hi ?_
    show Steps p.tables e below (T2.setTop (mkF m 12 #[.val (.double x), .second] [(.int i)])) _
    exact retOut X2 hx Bd.returns rfl (Or.inl ⟨rfl, Or.inl rfl, _, rfl⟩) (hb hby d13_12) hr
  · show own_QV (.int i) h0 n0 _ T2.heap _
    exact ⟨rfl, N0, e2⟩
theorem own_pd1 : parseMethodDescriptor "(D)I" = some ⟨[.double], some .int⟩ := by decide +kernel
theorem d8_0 : decode prog_66_method_3_code 0 = .ok (.dload_n 0, 1) := by decide +kernel
theorem d8_1 : decode prog_66_method_3_code 1 = .ok (.ldc2_w 9, 3) := by decide +kernel
theorem d8_4 : decode prog_66_method_3_code 4 = .ok (.dadd, 1) := by decide +kernel
theorem d8_5 : decode prog_66_method_3_code 5 = .ok (.invokestatic 21, 3) := by decide +kernel
theorem d8_8 : decode prog_66_method_3_code 8 = .ok (.invokestatic 17, 3) := by decide +kernel
theorem d8_11 : decode prog_66_method_3_code 11 = .ok (.ireturn, 1) := by decide +kernel
theorem own_ef_own_downM (m : MethodId) (x0 : UInt64) : entryFrame m #[(.double x0)] 2 = mkF m 0 #[.val (.double x0), .second] [] := by first | (simp [entryFrame, mkF, argsToLocals, Value.category]; done) | rfl
set_option maxRecDepth 65536 in
set_option maxHeartbeats 40000000 in
theorem own_downM (l : Launch) (Z : State) (a0 : Array Value) (hw : ∀ d ∈ tables_1, d.before a0 Z = true) (ws : List Jvm.Cond) (n : Nat) (hn38 : n + 1 < 2 ^ 37 + 2 ^ 20) (hn126 : n % 128 ≤ 126) (h0 : Heap) (n0 : Nat) (Z0 : n0 ≤ h0.size) (S : Sta Z h0 "java/lang/StrictMath" "$assertionsDisabled" "Z" (.int 1)) :
    MetFree l (⟨"com/example/herring/herring/sim/Rounding", "down", "(D)I"⟩ : MethodName) (head1 (Jvm.Cond.code (⟨"com/example/herring/herring/sim/Rounding", "down", "(D)I"⟩ : MethodName) prog_66_method_3_code 2 (some .int) :: ws) ({ frames := 6, cells := 0, slots := 0, locals := 155 } : Room)) (fun av U => av = #[(.double (own_enc n))] ∧ Z.Warmed39 U.vm ∧ U.heap = h0) (fun _ _ _ _ _ => True) (fun _ U o U' => ∃ v L, o = .returned v ∧ own_QV (.int (Int32.ofNat (n / 128))) h0 n0 v U'.heap L ∧ FrameEnd U o U' L ({ frames := 6, cells := 0, slots := 0, locals := 155 } : Room).cells ({ frames := 6, cells := 0, slots := 0, locals := 155 } : Room).slots) := by
  refine MetFree.of_bodySF (plainFor_of_name own_pn2) hisR ?_
  intro p e s m args below meth c s₁ Bd hml0 hP hK
  obtain ⟨rfl, hZ, hh⟩ := hP
  have hx := Bd.exec
  have hby := Bd.bytes
  have hml : c.maxLocals = 2 := hml0
  have hown : s.vm.findClass "com/example/herring/herring/sim/Rounding" = some m.cls := findClass_of_methodNamed Bd.named
  have hnm := (name_of_methodNamed Bd.named Bd.method).1
  have X0 : Stand p l e ({ frames := 6, cells := 0, slots := 0, locals := 155 } : Room) s m #[(.double (own_enc n))] below meth c s₁ [] 0 0 := Stand.of_body Bd
  have e0 : s₁.heap = h0 := by rw [← hh, Bd.state]; rfl
  have N0 := Fr.nil n0
  have pre0 : ∀ t, Steps p.tables e below (s₁.setTop (mkF m 0 #[.val (.double (own_enc n)), .second] [])) t → Steps p.tables e below (s₁.setTop (entryFrame m #[(.double (own_enc n))] 2)) t := fun t k => castTop (own_ef_own_downM m (own_enc n)) k
  have hb1 := own_tolbits (n := n) (by omega)
  obtain ⟨T1, X1, e1, st1⟩ := own_floor X0 hx hZ hw hown (mvT hZ (hw _ (List.mem_of_getElem? (i := 47) rfl))) (g := (mkF m 5 #[.val (.double (own_enc n)), .second] [(.double (FP.dadd (own_enc n) 4472406533629990549))])) rfl (by rw [hml]; rfl) rfl (rest := []) rfl (hb hby d8_5) hb1.1 hb1.2.1 hb1.2.2.1 hb1.2.2.2 (by rw [e0]; exact S) (by decide) (by decide)
  replace e1 : T1.heap = h0 := e1.trans e0
  obtain ⟨_, _, ⟨T2, L2, k2, n2⟩, -, X2, ⟨Lc2, hQ2, l2, y2, z2⟩, st2⟩ := Jvm.LawKit.callS X1 hx (y := (⟨"com/example/herring/herring/sim/Rounding", "clamp", "(D)I"⟩ : MethodName)) hown (mvT hZ (hw _ (List.mem_of_getElem? (i := 68) rfl))) (mvT hZ (hw _ (List.mem_of_getElem? (i := 69) rfl))) (mvT hZ (hw _ (List.mem_of_getElem? (i := 44) rfl))) (mvT hZ (hw _ (List.mem_of_getElem? (i := 70) rfl))) (by decide) (backOf (W := 0) (own_clampM l Z a0 hw [] (floorOf (FP.dadd (own_enc n) 4472406533629990549)) (Int32.ofNat (n / 128)) (own_DInt_nn (own_down (n := n) (by omega) hn126)) (own_DInt_nn (own_max (own_down (n := n) (by omega) hn126))) (own_clamp hn38 hn126) h0 n0 Z0) hZ (hw _ (List.mem_of_getElem? (i := 70) rfl)) (hw _ (List.mem_of_getElem? (i := 44) rfl)) (by decide) (by decide)) (g := (mkF m 8 #[.val (.double (own_enc n)), .second] [(.double (floorOf (FP.dadd (own_enc n) 4472406533629990549)))])) rfl (by rw [hml]; rfl) (argsL := [(.double (floorOf (FP.dadd (own_enc n) 4472406533629990549)))]) (rest := []) (lenOf own_pd1 rfl) rfl (by show 2 * 0 + _ ≤ _; exact Nat.le_of_eq rfl) (hb hby d8_8) (fun _ _ => ⟨rfl, e1, (by decide : 0 + 0 ≤ _), (by decide : 0 + 0 ≤ _)⟩)
  dsimp only [Pt.U, Pt.locs, Pt.cells, Pt.slots] at X2 l2 y2 z2 st2 hQ2
  subst l2 y2 z2
  obtain ⟨rfl, N2, e2⟩ := hQ2
  have N2 := Fr.app N0 N2
  obtain ⟨fs, hr, hrun, hended, hW, hsame⟩ := X2.leave (v := some (.int (Int32.ofNat (n / 128)))) (fun h => by rw [Bd.returns] at h; cases h)
  refine ⟨_, _, pre0 _ ?_, hrun, hended, _, _, rfl, ?_, ⟨_, rfl⟩, hW, hsame.mono (by decide) (by decide)⟩
  · show Steps p.tables e below (s₁.setTop (mkF m 0 #[.val (.double (own_enc n)), .second] [])) _
    refine XS.dloadN X0.here hx rfl (hb hby d8_0) rfl ?_
    show Steps p.tables e below (s₁.setTop (mkF m 1 #[.val (.double (own_enc n)), .second] [(.double (own_enc n))])) _
    refine X0.ldc2DoubleC hx hown (mvT hZ (hw _ (List.mem_of_getElem? (i := 46) rfl))) (g := (mkF m 1 #[.val (.double (own_enc n)), .second] [(.double (own_enc n))])) rfl (hb hby d8_1) _ ?_
    show Steps p.tables e below (s₁.setTop (mkF m 4 #[.val (.double (own_enc n)), .second] [(.double 4472406533629990549), (.double (own_enc n))])) _
    refine XS.daddS X0.here hx rfl (hb hby d8_4) rfl (own_nn_tol (n := n) (by omega)) rfl ?_
    show Steps p.tables e below (s₁.setTop (mkF m 5 #[.val (.double (own_enc n)), .second] [(.double (FP.dadd (own_enc n) 4472406533629990549))])) _
    refine st1 _ ?_
    show Steps p.tables e below (T1.setTop (mkF m 8 #[.val (.double (own_enc n)), .second] [(.double (floorOf (FP.dadd (own_enc n) 4472406533629990549)))])) _
    refine st2 _ ?_
    show Steps p.tables e below (T2.setTop (mkF m 11 #[.val (.double (own_enc n)), .second] [(.int (Int32.ofNat (n / 128)))])) _
    exact retOut X2 hx Bd.returns rfl (Or.inl ⟨rfl, Or.inl rfl, _, rfl⟩) (hb hby d8_11) hr
  · show own_QV (.int (Int32.ofNat (n / 128))) h0 n0 _ T2.heap _
    exact ⟨rfl, N2, e2⟩
theorem d7_0 : decode prog_60_method_6_code 0 = .ok (.aload_n 0, 1) := by decide +kernel
theorem d7_1 : decode prog_60_method_6_code 1 = .ok (.getfield 20, 3) := by decide +kernel
theorem d7_4 : decode prog_60_method_6_code 4 = .ok (.dload_n 1, 1) := by decide +kernel
theorem d7_5 : decode prog_60_method_6_code 5 = .ok (.aload_n 0, 1) := by decide +kernel
theorem d7_6 : decode prog_60_method_6_code 6 = .ok (.getfield 23, 3) := by decide +kernel
theorem d7_9 : decode prog_60_method_6_code 9 = .ok (.ddiv, 1) := by decide +kernel
theorem d7_10 : decode prog_60_method_6_code 10 = .ok (.dadd, 1) := by decide +kernel
theorem d7_11 : decode prog_60_method_6_code 11 = .ok (.dreturn, 1) := by decide +kernel
theorem own_ef_own_turn (m : MethodId) (x0 : Addr) (x1 : UInt64) : entryFrame m #[(.ref x0), (.double x1)] 3 = mkF m 0 #[.val (.ref x0), .val (.double x1), .second] [] := by first | (simp [entryFrame, mkF, argsToLocals, Value.category]; done) | rfl
set_option maxRecDepth 65536 in
set_option maxHeartbeats 40000000 in
theorem own_turn (l : Launch) (Z : State) (a0 : Array Value) (hw : ∀ d ∈ tables_1, d.before a0 Z = true) (ws : List Jvm.Cond) (a : Addr) (x c1 c2 c3 c4 q r : UInt64) (hq : FP.ddiv x c1 = q) (hqn : NoNaN64 q) (hr' : FP.dadd c2 q = r) (hrn : NoNaN64 r) (h0 : Heap) (n0 : Nat) (Z0 : n0 ≤ h0.size) (F : own_FC Z h0 a c1 c2 c3 c4) :
    MetFree l (⟨"com/example/herring/herring/sim/FlowCapacity", "turn", "(D)D"⟩ : MethodName) (head1 (Jvm.Cond.code (⟨"com/example/herring/herring/sim/FlowCapacity", "turn", "(D)D"⟩ : MethodName) prog_60_method_6_code 3 (some .double) :: ws) ({ frames := 0, cells := 0, slots := 0, locals := 0 } : Room)) (fun av U => av = #[(.ref a), (.double x)] ∧ Z.Warmed39 U.vm ∧ U.heap = h0) (fun _ _ _ _ _ => True) (fun _ U o U' => ∃ v L, o = .returned v ∧ own_QV (.double r) h0 n0 v U'.heap L ∧ FrameEnd U o U' L ({ frames := 0, cells := 0, slots := 0, locals := 0 } : Room).cells ({ frames := 0, cells := 0, slots := 0, locals := 0 } : Room).slots) := by
  refine MetFree.of_bodySF (plainFor_of_name own_pn0) hisR ?_
  intro p e s m args below meth c s₁ Bd hml0 hP hK
  obtain ⟨rfl, hZ, hh⟩ := hP
  have hx := Bd.exec
  have hby := Bd.bytes
  have hml : c.maxLocals = 3 := hml0
  have hown : s.vm.findClass "com/example/herring/herring/sim/FlowCapacity" = some m.cls := findClass_of_methodNamed Bd.named
  have hnm := (name_of_methodNamed Bd.named Bd.method).1
  have X0 : Stand p l e ({ frames := 0, cells := 0, slots := 0, locals := 0 } : Room) s m #[(.ref a), (.double x)] below meth c s₁ [] 0 0 := Stand.of_body Bd
  have e0 : s₁.heap = h0 := by rw [← hh, Bd.state]; rfl
  have N0 := Fr.nil n0
  have pre0 : ∀ t, Steps p.tables e below (s₁.setTop (mkF m 0 #[.val (.ref a), .val (.double x), .second] [])) t → Steps p.tables e below (s₁.setTop (entryFrame m #[(.ref a), (.double x)] 3)) t := fun t k => castTop (own_ef_own_turn m a x) k
  obtain ⟨T1, X1, e1, st1⟩ := getF X0 hx hZ hown (host := "") (Or.inl (hw _ (List.mem_of_getElem? (i := 40) rfl))) Via.refl e0 F.2.2.1 (g := (mkF m 1 #[.val (.ref a), .val (.double x), .second] [(.ref a)])) rfl rfl (hb hby d7_1)
  obtain ⟨T2, X2, e2, st2⟩ := getF X1 hx hZ hown (host := "") (Or.inl (hw _ (List.mem_of_getElem? (i := 24) rfl))) Via.refl e1 F.2.1 (g := (mkF m 6 #[.val (.ref a), .val (.double x), .second] [(.ref a), (.double x), (.double c2)])) rfl rfl (hb hby d7_6)
  obtain ⟨fs, hr, hrun, hended, hW, hsame⟩ := X2.leave (v := some (.double r)) (fun h => by rw [Bd.returns] at h; cases h)
  refine ⟨_, _, pre0 _ ?_, hrun, hended, _, _, rfl, ?_, ⟨_, rfl⟩, hW, hsame.mono (by decide) (by decide)⟩
  · show Steps p.tables e below (s₁.setTop (mkF m 0 #[.val (.ref a), .val (.double x), .second] [])) _
    refine XS.aloadN X0.here hx rfl (hb hby d7_0) rfl rfl ?_
    show Steps p.tables e below (s₁.setTop (mkF m 1 #[.val (.ref a), .val (.double x), .second] [(.ref a)])) _
    refine st1 _ ?_
    show Steps p.tables e below (T1.setTop (mkF m 4 #[.val (.ref a), .val (.double x), .second] [(.double c2)])) _
    refine XS.dloadN X1.here hx rfl (hb hby d7_4) rfl ?_
    show Steps p.tables e below (T1.setTop (mkF m 5 #[.val (.ref a), .val (.double x), .second] [(.double x), (.double c2)])) _
    refine XS.aloadN X1.here hx rfl (hb hby d7_5) rfl rfl ?_
    show Steps p.tables e below (T1.setTop (mkF m 6 #[.val (.ref a), .val (.double x), .second] [(.ref a), (.double x), (.double c2)])) _
    refine st2 _ ?_
    show Steps p.tables e below (T2.setTop (mkF m 9 #[.val (.ref a), .val (.double x), .second] [(.double c1), (.double x), (.double c2)])) _
    refine XS.ddivS X2.here hx rfl (hb hby d7_9) rfl (by rw [hq]; exact hqn) hq ?_
    show Steps p.tables e below (T2.setTop (mkF m 10 #[.val (.ref a), .val (.double x), .second] [(.double q), (.double c2)])) _
    refine XS.daddS X2.here hx rfl (hb hby d7_10) rfl (by rw [hr']; exact hrn) hr' ?_
    show Steps p.tables e below (T2.setTop (mkF m 11 #[.val (.ref a), .val (.double x), .second] [(.double r)])) _
    exact retOut X2 hx Bd.returns rfl (Or.inr (Or.inr (Or.inl ⟨rfl, rfl, _, rfl⟩))) (hb hby d7_11) hr
  · show own_QV (.double r) h0 n0 _ T2.heap _
    exact ⟨rfl, N0, e2⟩
theorem d6_0 : decode prog_60_method_5_code 0 = .ok (.aload_n 0, 1) := by decide +kernel
theorem d6_1 : decode prog_60_method_5_code 1 = .ok (.getfield 23, 3) := by decide +kernel
theorem d6_4 : decode prog_60_method_5_code 4 = .ok (.dconst 0, 1) := by decide +kernel
theorem d6_5 : decode prog_60_method_5_code 5 = .ok (.dcmp .l, 1) := by decide +kernel
theorem d6_6 : decode prog_60_method_5_code 6 = .ok (.ifCond .le 18, 3) := by decide +kernel
theorem d6_24 : decode prog_60_method_5_code 24 = .ok (.ldc2_w 38, 3) := by decide +kernel
theorem d6_27 : decode prog_60_method_5_code 27 = .ok (.lreturn, 1) := by decide +kernel
theorem own_ef_own_nextZ (m : MethodId) (x0 : Addr) : entryFrame m #[(.ref x0)] 1 = mkF m 0 #[.val (.ref x0)] [] := by first | (simp [entryFrame, mkF, argsToLocals, Value.category]; done) | rfl
set_option maxRecDepth 65536 in
set_option maxHeartbeats 40000000 in
theorem own_nextZ (l : Launch) (Z : State) (a0 : Array Value) (hw : ∀ d ∈ tables_1, d.before a0 Z = true) (ws : List Jvm.Cond) (a : Addr) (c1 c2 c3 c4 : UInt64) (hc0 : cmpValue (FP.dcmp c1 0) .l = 0) (h0 : Heap) (n0 : Nat) (Z0 : n0 ≤ h0.size) (F : own_FC Z h0 a c1 c2 c3 c4) :
    MetFree l (⟨"com/example/herring/herring/sim/FlowCapacity", "nextSecond", "()J"⟩ : MethodName) (head1 (Jvm.Cond.code (⟨"com/example/herring/herring/sim/FlowCapacity", "nextSecond", "()J"⟩ : MethodName) prog_60_method_5_code 1 (some .long) :: ws) ({ frames := 0, cells := 0, slots := 0, locals := 0 } : Room)) (fun av U => av = #[(.ref a)] ∧ Z.Warmed39 U.vm ∧ U.heap = h0) (fun _ _ _ _ _ => True) (fun _ U o U' => ∃ v L, o = .returned v ∧ own_QV (.long 9223372036854775807) h0 n0 v U'.heap L ∧ FrameEnd U o U' L ({ frames := 0, cells := 0, slots := 0, locals := 0 } : Room).cells ({ frames := 0, cells := 0, slots := 0, locals := 0 } : Room).slots) := by
  refine MetFree.of_bodySF (plainFor_of_name own_pn0) hisR ?_
  intro p e s m args below meth c s₁ Bd hml0 hP hK
  obtain ⟨rfl, hZ, hh⟩ := hP
  have hx := Bd.exec
  have hby := Bd.bytes
  have hml : c.maxLocals = 1 := hml0
  have hown : s.vm.findClass "com/example/herring/herring/sim/FlowCapacity" = some m.cls := findClass_of_methodNamed Bd.named
  have hnm := (name_of_methodNamed Bd.named Bd.method).1
  have X0 : Stand p l e ({ frames := 0, cells := 0, slots := 0, locals := 0 } : Room) s m #[(.ref a)] below meth c s₁ [] 0 0 := Stand.of_body Bd
  have e0 : s₁.heap = h0 := by rw [← hh, Bd.state]; rfl
  have N0 := Fr.nil n0
  have pre0 : ∀ t, Steps p.tables e below (s₁.setTop (mkF m 0 #[.val (.ref a)] [])) t → Steps p.tables e below (s₁.setTop (entryFrame m #[(.ref a)] 1)) t := fun t k => castTop (own_ef_own_nextZ m a) k
  obtain ⟨T1, X1, e1, st1⟩ := getF X0 hx hZ hown (host := "") (Or.inl (hw _ (List.mem_of_getElem? (i := 24) rfl))) Via.refl e0 F.2.1 (g := (mkF m 1 #[.val (.ref a)] [(.ref a)])) rfl rfl (hb hby d6_1)
  obtain ⟨fs, hr, hrun, hended, hW, hsame⟩ := X1.leave (v := some (.long 9223372036854775807)) (fun h => by rw [Bd.returns] at h; cases h)
  refine ⟨_, _, pre0 _ ?_, hrun, hended, _, _, rfl, ?_, ⟨_, rfl⟩, hW, hsame.mono (by decide) (by decide)⟩
  · show Steps p.tables e below (s₁.setTop (mkF m 0 #[.val (.ref a)] [])) _
    refine XS.aloadN X0.here hx rfl (hb hby d6_0) rfl rfl ?_
    show Steps p.tables e below (s₁.setTop (mkF m 1 #[.val (.ref a)] [(.ref a)])) _
    refine st1 _ ?_
    show Steps p.tables e below (T1.setTop (mkF m 4 #[.val (.ref a)] [(.double c1)])) _
    refine XS.dconst0 X1.here hx rfl (hb hby d6_4) rfl ?_
    show Steps p.tables e below (T1.setTop (mkF m 5 #[.val (.ref a)] [(.double 0), (.double c1)])) _
    refine XS.dcmpS X1.here hx rfl (hb hby d6_5) rfl hc0 ?_
    show Steps p.tables e below (T1.setTop (mkF m 6 #[.val (.ref a)] [(.int 0)])) _
    refine XS.ifYes X1.here hx rfl rfl (hb hby d6_6) rfl (by decide) (show (0 : Int) ≤ ((6 : Nat) : Int) + (18) by decide) (show (((6 : Nat) : Int) + (18)).toNat = 24 by decide) ?_
    show Steps p.tables e below (T1.setTop (mkF m 24 #[.val (.ref a)] [])) _
    refine X1.ldc2Long hx hown (mvT hZ (hw _ (List.mem_of_getElem? (i := 89) rfl))) (g := (mkF m 24 #[.val (.ref a)] [])) rfl (hb hby d6_24) _ ?_
    show Steps p.tables e below (T1.setTop (mkF m 27 #[.val (.ref a)] [(.long 9223372036854775807)])) _
    exact retOut X1 hx Bd.returns rfl (Or.inr (Or.inl ⟨rfl, rfl, _, rfl⟩)) (hb hby d6_27) hr
  · show own_QV (.long 9223372036854775807) h0 n0 _ T1.heap _
    exact ⟨rfl, N0, e1⟩
theorem own_pd2 : parseMethodDescriptor "(D)D" = some ⟨[.double], some .double⟩ := by decide +kernel
theorem d6_9 : decode prog_60_method_5_code 9 = .ok (.aload_n 0, 1) := by decide +kernel
theorem d6_10 : decode prog_60_method_5_code 10 = .ok (.aload_n 0, 1) := by decide +kernel
theorem d6_11 : decode prog_60_method_5_code 11 = .ok (.getfield 7, 3) := by decide +kernel
theorem d6_14 : decode prog_60_method_5_code 14 = .ok (.invokevirtual 16, 3) := by decide +kernel
theorem d6_17 : decode prog_60_method_5_code 17 = .ok (.invokestatic 30, 3) := by decide +kernel
theorem d6_20 : decode prog_60_method_5_code 20 = .ok (.i2l, 1) := by decide +kernel
theorem d6_21 : decode prog_60_method_5_code 21 = .ok (.goto 6, 3) := by decide +kernel
theorem own_ef_own_next (m : MethodId) (x0 : Addr) : entryFrame m #[(.ref x0)] 1 = mkF m 0 #[.val (.ref x0)] [] := by first | (simp [entryFrame, mkF, argsToLocals, Value.category]; done) | rfl
set_option maxRecDepth 65536 in
set_option maxHeartbeats 40000000 in
theorem own_next (l : Launch) (Z : State) (a0 : Array Value) (hw : ∀ d ∈ tables_1, d.before a0 Z = true) (ws : List Jvm.Cond) (a : Addr) (c1 c2 c3 c4 : UInt64) (q : UInt64) (n : Nat) (hn38 : n + 1 < 2 ^ 37 + 2 ^ 20) (hn126 : n % 128 ≤ 126) (hc1 : cmpValue (FP.dcmp c1 0) .l = 1) (hq : FP.ddiv c3 c1 = q) (hqn : NoNaN64 q) (hr' : FP.dadd c2 q = own_enc n) (h0 : Heap) (n0 : Nat) (Z0 : n0 ≤ h0.size) (F : own_FC Z h0 a c1 c2 c3 c4) (S : Sta Z h0 "java/lang/StrictMath" "$assertionsDisabled" "Z" (.int 1)) :
    MetFree l (⟨"com/example/herring/herring/sim/FlowCapacity", "nextSecond", "()J"⟩ : MethodName) (head1 (Jvm.Cond.code (⟨"com/example/herring/herring/sim/FlowCapacity", "nextSecond", "()J"⟩ : MethodName) prog_60_method_5_code 1 (some .long) :: ws) ({ frames := 7, cells := 0, slots := 0, locals := 168 } : Room)) (fun av U => av = #[(.ref a)] ∧ Z.Warmed39 U.vm ∧ U.heap = h0) (fun _ _ _ _ _ => True) (fun _ U o U' => ∃ v L, o = .returned v ∧ own_QV (.long (Int32.ofNat (n / 128)).toInt64) h0 n0 v U'.heap L ∧ FrameEnd U o U' L ({ frames := 7, cells := 0, slots := 0, locals := 168 } : Room).cells ({ frames := 7, cells := 0, slots := 0, locals := 168 } : Room).slots) := by
  refine MetFree.of_bodySF (plainFor_of_name own_pn0) hisR ?_
  intro p e s m args below meth c s₁ Bd hml0 hP hK
  obtain ⟨rfl, hZ, hh⟩ := hP
  have hx := Bd.exec
  have hby := Bd.bytes
  have hml : c.maxLocals = 1 := hml0
  have hown : s.vm.findClass "com/example/herring/herring/sim/FlowCapacity" = some m.cls := findClass_of_methodNamed Bd.named
  have hnm := (name_of_methodNamed Bd.named Bd.method).1
  have X0 : Stand p l e ({ frames := 7, cells := 0, slots := 0, locals := 168 } : Room) s m #[(.ref a)] below meth c s₁ [] 0 0 := Stand.of_body Bd
  have e0 : s₁.heap = h0 := by rw [← hh, Bd.state]; rfl
  have N0 := Fr.nil n0
  have pre0 : ∀ t, Steps p.tables e below (s₁.setTop (mkF m 0 #[.val (.ref a)] [])) t → Steps p.tables e below (s₁.setTop (entryFrame m #[(.ref a)] 1)) t := fun t k => castTop (own_ef_own_next m a) k
  obtain ⟨T1, X1, e1, st1⟩ := getF X0 hx hZ hown (host := "") (Or.inl (hw _ (List.mem_of_getElem? (i := 24) rfl))) Via.refl e0 F.2.1 (g := (mkF m 1 #[.val (.ref a)] [(.ref a)])) rfl rfl (hb hby d6_1)
  obtain ⟨T2, X2, e2, st2⟩ := getF X1 hx hZ hown (host := "") (Or.inl (hw _ (List.mem_of_getElem? (i := 20) rfl))) Via.refl e1 F.2.2.2.1 (g := (mkF m 11 #[.val (.ref a)] [(.ref a), (.ref a)])) rfl rfl (hb hby d6_11)
  obtain ⟨cl3, q3, q3'⟩ := (F.1).cell
  obtain ⟨_, _, ⟨T3, L3, k3, n3⟩, -, X3, ⟨Lc3, hQ3, l3, y3, z3⟩, st3⟩ := X2.privateBack hx (y := (⟨"com/example/herring/herring/sim/FlowCapacity", "turn", "(D)D"⟩ : MethodName)) hown (mvT hZ (hw _ (List.mem_of_getElem? (i := 36) rfl))) (mvT hZ (hw _ (List.mem_of_getElem? (i := 37) rfl))) (own_selT (z := (⟨"com/example/herring/herring/sim/FlowCapacity", "setCarsPerSecond", "(D)V"⟩ : MethodName)) rfl (mvT hZ (hw _ (List.mem_of_getElem? (i := 18) rfl))) (Cond.privateMethod_at (mvP hZ (hw _ (List.mem_of_getElem? (i := 38) rfl)) (args := #[]))) (mvT hZ (hw _ (List.mem_of_getElem? (i := 37) rfl))) (by decide)) (Cond.privateMethod_at (mvP hZ (hw _ (List.mem_of_getElem? (i := 38) rfl)) (args := #[]))) (mvT hZ (hw _ (List.mem_of_getElem? (i := 39) rfl))) (by decide) (backOf (W := 0) (own_turn l Z a0 hw [] a c3 c1 c2 c3 c4 q (own_enc n) hq hqn hr' (own_nn (n := n) (by omega)) h0 n0 Z0 F) hZ (hw _ (List.mem_of_getElem? (i := 39) rfl)) (hw _ (List.mem_of_getElem? (i := 3) rfl)) (by decide) (by decide)) (g := (mkF m 14 #[.val (.ref a)] [(.double c3), (.ref a)])) rfl (by rw [hml]; rfl) (Steps.refl _) (a := a) (by rw [e2]; exact q3) q3' (argsL := [(.double c3)]) (rest := []) (lenOf own_pd2 rfl) rfl (by show 2 * 0 + _ ≤ _; exact Nat.le_of_eq rfl) (hb hby d6_14) (fun _ _ => ⟨rfl, e2, (by decide : 0 + 0 ≤ _), (by decide : 0 + 0 ≤ _)⟩)
  dsimp only [Pt.U, Pt.locs, Pt.cells, Pt.slots] at X3 l3 y3 z3 st3 hQ3
  subst l3 y3 z3
  obtain ⟨rfl, N3, e3⟩ := hQ3
  have N3 := Fr.app N0 N3
  obtain ⟨_, _, ⟨T4, L4, k4, n4⟩, -, X4, ⟨Lc4, hQ4, l4, y4, z4⟩, st4⟩ := Jvm.LawKit.callS X3 hx (y := (⟨"com/example/herring/herring/sim/Rounding", "down", "(D)I"⟩ : MethodName)) hown (mvT hZ (hw _ (List.mem_of_getElem? (i := 42) rfl))) (mvT hZ (hw _ (List.mem_of_getElem? (i := 43) rfl))) (mvT hZ (hw _ (List.mem_of_getElem? (i := 44) rfl))) (mvT hZ (hw _ (List.mem_of_getElem? (i := 45) rfl))) (by decide) (backOf (W := 0) (own_downM l Z a0 hw [] n hn38 hn126 h0 n0 Z0 S) hZ (hw _ (List.mem_of_getElem? (i := 45) rfl)) (hw _ (List.mem_of_getElem? (i := 44) rfl)) (by decide) (by decide)) (g := (mkF m 17 #[.val (.ref a)] [(.double (own_enc n))])) rfl (by rw [hml]; rfl) (argsL := [(.double (own_enc n))]) (rest := []) (lenOf own_pd1 rfl) rfl (by show 2 * 0 + _ ≤ _; exact Nat.le_of_eq rfl) (hb hby d6_17) (fun _ _ => ⟨rfl, e3, (by decide : 0 + 0 + 0 ≤ _), (by decide : 0 + 0 + 0 ≤ _)⟩)
  dsimp only [Pt.U, Pt.locs, Pt.cells, Pt.slots] at X4 l4 y4 z4 st4 hQ4
  subst l4 y4 z4
  obtain ⟨rfl, N4, e4⟩ := hQ4
  have N4 := Fr.app N3 N4
  obtain ⟨fs, hr, hrun, hended, hW, hsame⟩ := X4.leave (v := some (.long (Int32.ofNat (n / 128)).toInt64)) (fun h => by rw [Bd.returns] at h; cases h)
  refine ⟨_, _, pre0 _ ?_, hrun, hended, _, _, rfl, ?_, ⟨_, rfl⟩, hW, hsame.mono (by decide) (by decide)⟩
  · show Steps p.tables e below (s₁.setTop (mkF m 0 #[.val (.ref a)] [])) _
    refine XS.aloadN X0.here hx rfl (hb hby d6_0) rfl rfl ?_
    show Steps p.tables e below (s₁.setTop (mkF m 1 #[.val (.ref a)] [(.ref a)])) _
    refine st1 _ ?_
    show Steps p.tables e below (T1.setTop (mkF m 4 #[.val (.ref a)] [(.double c1)])) _
    refine XS.dconst0 X1.here hx rfl (hb hby d6_4) rfl ?_
    show Steps p.tables e below (T1.setTop (mkF m 5 #[.val (.ref a)] [(.double 0), (.double c1)])) _
    refine XS.dcmpS X1.here hx rfl (hb hby d6_5) rfl hc1 ?_
    show Steps p.tables e below (T1.setTop (mkF m 6 #[.val (.ref a)] [(.int 1)])) _
    refine XS.ifNo X1.here hx rfl (hb hby d6_6) rfl (by decide) ?_
    show Steps p.tables e below (T1.setTop (mkF m 9 #[.val (.ref a)] [])) _
    refine XS.aloadN X1.here hx rfl (hb hby d6_9) rfl rfl ?_
    show Steps p.tables e below (T1.setTop (mkF m 10 #[.val (.ref a)] [(.ref a)])) _
    refine XS.aloadN X1.here hx rfl (hb hby d6_10) rfl rfl ?_
    show Steps p.tables e below (T1.setTop (mkF m 11 #[.val (.ref a)] [(.ref a), (.ref a)])) _
    refine st2 _ ?_
    show Steps p.tables e below (T2.setTop (mkF m 14 #[.val (.ref a)] [(.double c3), (.ref a)])) _
    refine st3.trans ?_
    show Steps p.tables e below (T3.setTop (mkF m 17 #[.val (.ref a)] [(.double (own_enc n))])) _
    refine st4 _ ?_
    show Steps p.tables e below (T4.setTop (mkF m 20 #[.val (.ref a)] [(.int (Int32.ofNat (n / 128)))])) _
    refine XT.i2l X4.here hx rfl (hb hby d6_20) rfl ?_
    show Steps p.tables e below (T4.setTop (mkF m 21 #[.val (.ref a)] [(.long ((Int32.ofNat (n / 128)).toInt64))])) _
    refine XS.goto X4.here hx rfl rfl (hb hby d6_21) (show (0 : Int) ≤ ((21 : Nat) : Int) + (6) by decide) (show (((21 : Nat) : Int) + (6)).toNat = 27 by decide) ?_
    show Steps p.tables e below (T4.setTop (mkF m 27 #[.val (.ref a)] [(.long ((Int32.ofNat (n / 128)).toInt64))])) _
    exact retOut X4 hx Bd.returns rfl (Or.inr (Or.inl ⟨rfl, rfl, _, rfl⟩)) (hb hby d6_27) hr
  · show own_QV (.long (Int32.ofNat (n / 128)).toInt64) h0 n0 _ T4.heap _
    exact ⟨rfl, N4, e4⟩
theorem d4_0 : decode prog_60_method_2_code 0 = .ok (.aload_n 0, 1) := by decide +kernel
theorem d4_1 : decode prog_60_method_2_code 1 = .ok (.getfield 7, 3) := by decide +kernel
theorem d4_4 : decode prog_60_method_2_code 4 = .ok (.aload_n 0, 1) := by decide +kernel
theorem d4_5 : decode prog_60_method_2_code 5 = .ok (.getfield 13, 3) := by decide +kernel
theorem d4_8 : decode prog_60_method_2_code 8 = .ok (.dcmp .l, 1) := by decide +kernel
theorem d4_9 : decode prog_60_method_2_code 9 = .ok (.ifCond .le 28, 3) := by decide +kernel
theorem d4_37 : decode prog_60_method_2_code 37 = .ok (.aload_n 0, 1) := by decide +kernel
theorem d4_38 : decode prog_60_method_2_code 38 = .ok (.dload_n 1, 1) := by decide +kernel
theorem d4_39 : decode prog_60_method_2_code 39 = .ok (.putfield 23, 3) := by decide +kernel
theorem d4_42 : decode prog_60_method_2_code 42 = .ok (.return_, 1) := by decide +kernel
theorem own_ef_own_setN (m : MethodId) (x0 : Addr) (x1 : UInt64) : entryFrame m #[(.ref x0), (.double x1)] 3 = mkF m 0 #[.val (.ref x0), .val (.double x1), .second] [] := by first | (simp [entryFrame, mkF, argsToLocals, Value.category]; done) | rfl
set_option maxRecDepth 65536 in
set_option maxHeartbeats 40000000 in
theorem own_setN (l : Launch) (Z : State) (a0 : Array Value) (hw : ∀ d ∈ tables_1, d.before a0 Z = true) (ws : List Jvm.Cond) (a : Addr) (x c1 c2 c3 c4 : UInt64) (hc0 : cmpValue (FP.dcmp c3 c4) .l = 0) (h0 : Heap) (n0 : Nat) (Z0 : n0 ≤ h0.size) (F : own_FC Z h0 a c1 c2 c3 c4) (ga : n0 ≤ a) :
    MetFree l (⟨"com/example/herring/herring/sim/FlowCapacity", "setCarsPerSecond", "(D)V"⟩ : MethodName) (head1 (Jvm.Cond.code (⟨"com/example/herring/herring/sim/FlowCapacity", "setCarsPerSecond", "(D)V"⟩ : MethodName) prog_60_method_2_code 3 none :: ws) ({ frames := 1, cells := 0, slots := 0, locals := 15 } : Room)) (fun av U => av = #[(.ref a), (.double x)] ∧ Z.Warmed39 U.vm ∧ U.heap = h0) (fun _ _ _ _ _ => True) (fun _ U o U' => ∃ v L, o = .returned v ∧ own_QF Z a x c2 c3 c4 h0 n0 v U'.heap L ∧ FrameEnd U o U' L ({ frames := 1, cells := 0, slots := 0, locals := 15 } : Room).cells ({ frames := 1, cells := 0, slots := 0, locals := 15 } : Room).slots) := by
  refine MetFree.of_bodySF (plainFor_of_name own_pn0) hisR ?_
  intro p e s m args below meth c s₁ Bd hml0 hP hK
  obtain ⟨rfl, hZ, hh⟩ := hP
  have hx := Bd.exec
  have hby := Bd.bytes
  have hml : c.maxLocals = 3 := hml0
  have hown : s.vm.findClass "com/example/herring/herring/sim/FlowCapacity" = some m.cls := findClass_of_methodNamed Bd.named
  have hnm := (name_of_methodNamed Bd.named Bd.method).1
  have X0 : Stand p l e ({ frames := 1, cells := 0, slots := 0, locals := 15 } : Room) s m #[(.ref a), (.double x)] below meth c s₁ [] 0 0 := Stand.of_body Bd
  have e0 : s₁.heap = h0 := by rw [← hh, Bd.state]; rfl
  have N0 := Fr.nil n0
  have pre0 : ∀ t, Steps p.tables e below (s₁.setTop (mkF m 0 #[.val (.ref a), .val (.double x), .second] [])) t → Steps p.tables e below (s₁.setTop (entryFrame m #[(.ref a), (.double x)] 3)) t := fun t k => castTop (own_ef_own_setN m a x) k
  obtain ⟨T1, X1, e1, st1⟩ := getF X0 hx hZ hown (host := "") (Or.inl (hw _ (List.mem_of_getElem? (i := 20) rfl))) Via.refl e0 F.2.2.2.1 (g := (mkF m 1 #[.val (.ref a), .val (.double x), .second] [(.ref a)])) rfl rfl (hb hby d4_1)
  obtain ⟨T2, X2, e2, st2⟩ := getF X1 hx hZ hown (host := "") (Or.inl (hw _ (List.mem_of_getElem? (i := 22) rfl))) Via.refl e1 F.2.2.2.2 (g := (mkF m 5 #[.val (.ref a), .val (.double x), .second] [(.ref a), (.double c3)])) rfl rfl (hb hby d4_5)
  obtain ⟨T3, h3, X3, e3, W3, st3⟩ := putF X2 hx hZ hown (host := "") (Or.inl (hw _ (List.mem_of_getElem? (i := 24) rfl))) Via.refl e2 F.2.1 F.1 (Or.inl (hw _ (List.mem_of_getElem? (i := 25) rfl))) (hw _ (List.mem_of_getElem? (i := 2) rfl)) (ty := .double) (by decide) rfl rfl (g := (mkF m 39 #[.val (.ref a), .val (.double x), .second] [(.double x), (.ref a)])) rfl rfl (hb hby d4_39)
  have N3 := Fr.snoc X3 N0 ga
  have K3 : Keep h0 h3 [a] := (Keep.refl h0 [a]).wr W3 (Or.inl (List.mem_of_getElem? (i := 0) rfl))
  have E3 : Exa Z h3 a "com/example/herring/herring/sim/FlowCapacity" := F.1.wr W3
  have F3_carsPerSecond : Fld Z h3 a "com/example/herring/herring/sim/FlowCapacity" "carsPerSecond" "D" (.double x) := F.2.1.same W3
  have F3_stretchStart : Fld Z h3 a "com/example/herring/herring/sim/FlowCapacity" "stretchStart" "D" (.double c2) := F.2.2.1.other W3 (Or.inr (slot_ne (Or.inl (hw _ (List.mem_of_getElem? (i := 41) rfl))) (Or.inl (hw _ (List.mem_of_getElem? (i := 25) rfl))) (by decide) (t := .double) (by decide) (t' := .double) (by decide)))
  have F3_turnsInStretch : Fld Z h3 a "com/example/herring/herring/sim/FlowCapacity" "turnsInStretch" "D" (.double c3) := F.2.2.2.1.other W3 (Or.inr (slot_ne (Or.inl (hw _ (List.mem_of_getElem? (i := 21) rfl))) (Or.inl (hw _ (List.mem_of_getElem? (i := 25) rfl))) (by decide) (t := .double) (by decide) (t' := .double) (by decide)))
  have F3_lastShare : Fld Z h3 a "com/example/herring/herring/sim/FlowCapacity" "lastShare" "D" (.double c4) := F.2.2.2.2.other W3 (Or.inr (slot_ne (Or.inl (hw _ (List.mem_of_getElem? (i := 23) rfl))) (Or.inl (hw _ (List.mem_of_getElem? (i := 25) rfl))) (by decide) (t := .double) (by decide) (t' := .double) (by decide)))
  obtain ⟨fs, hr, hrun, hended, hW, hsame⟩ := X3.leave (v := none) (fun _ => rfl)
  refine ⟨_, _, pre0 _ ?_, hrun, hended, _, _, rfl, ?_, ⟨_, rfl⟩, hW, hsame.mono (by decide) (by decide)⟩
  · show Steps p.tables e below (s₁.setTop (mkF m 0 #[.val (.ref a), .val (.double x), .second] [])) _
    refine XS.aloadN X0.here hx rfl (hb hby d4_0) rfl rfl ?_
    show Steps p.tables e below (s₁.setTop (mkF m 1 #[.val (.ref a), .val (.double x), .second] [(.ref a)])) _
    refine st1 _ ?_
    show Steps p.tables e below (T1.setTop (mkF m 4 #[.val (.ref a), .val (.double x), .second] [(.double c3)])) _
    refine XS.aloadN X1.here hx rfl (hb hby d4_4) rfl rfl ?_
    show Steps p.tables e below (T1.setTop (mkF m 5 #[.val (.ref a), .val (.double x), .second] [(.ref a), (.double c3)])) _
    refine st2 _ ?_
    show Steps p.tables e below (T2.setTop (mkF m 8 #[.val (.ref a), .val (.double x), .second] [(.double c4), (.double c3)])) _
    refine XS.dcmpS X2.here hx rfl (hb hby d4_8) rfl hc0 ?_
    show Steps p.tables e below (T2.setTop (mkF m 9 #[.val (.ref a), .val (.double x), .second] [(.int 0)])) _
    refine XS.ifYes X2.here hx rfl rfl (hb hby d4_9) rfl (by decide) (show (0 : Int) ≤ ((9 : Nat) : Int) + (28) by decide) (show (((9 : Nat) : Int) + (28)).toNat = 37 by decide) ?_
    show Steps p.tables e below (T2.setTop (mkF m 37 #[.val (.ref a), .val (.double x), .second] [])) _
    refine XS.aloadN X2.here hx rfl (hb hby d4_37) rfl rfl ?_
    show Steps p.tables e below (T2.setTop (mkF m 38 #[.val (.ref a), .val (.double x), .second] [(.ref a)])) _
    refine XS.dloadN X2.here hx rfl (hb hby d4_38) rfl ?_
    show Steps p.tables e below (T2.setTop (mkF m 39 #[.val (.ref a), .val (.double x), .second] [(.double x), (.ref a)])) _
    refine st3 _ ?_
    show Steps p.tables e below (T3.setTop (mkF m 42 #[.val (.ref a), .val (.double x), .second] [])) _
    exact X3.returnOut hx Bd.returns (hb hby d4_42) hr
  · show own_QF Z a x c2 c3 c4 h0 n0 _ T3.heap _
    rw [e3]; exact ⟨rfl, N3, K3, E3, F3_carsPerSecond, F3_stretchStart, F3_turnsInStretch, F3_lastShare⟩
theorem d4_12 : decode prog_60_method_2_code 12 = .ok (.aload_n 0, 1) := by decide +kernel
theorem d4_13 : decode prog_60_method_2_code 13 = .ok (.aload_n 0, 1) := by decide +kernel
theorem d4_14 : decode prog_60_method_2_code 14 = .ok (.aload_n 0, 1) := by decide +kernel
theorem d4_15 : decode prog_60_method_2_code 15 = .ok (.getfield 7, 3) := by decide +kernel
theorem d4_18 : decode prog_60_method_2_code 18 = .ok (.aload_n 0, 1) := by decide +kernel
theorem d4_19 : decode prog_60_method_2_code 19 = .ok (.getfield 13, 3) := by decide +kernel
theorem d4_22 : decode prog_60_method_2_code 22 = .ok (.dsub, 1) := by decide +kernel
theorem d4_23 : decode prog_60_method_2_code 23 = .ok (.invokevirtual 16, 3) := by decide +kernel
theorem d4_26 : decode prog_60_method_2_code 26 = .ok (.putfield 20, 3) := by decide +kernel
theorem d4_29 : decode prog_60_method_2_code 29 = .ok (.aload_n 0, 1) := by decide +kernel
theorem d4_30 : decode prog_60_method_2_code 30 = .ok (.aload_n 0, 1) := by decide +kernel
theorem d4_31 : decode prog_60_method_2_code 31 = .ok (.getfield 13, 3) := by decide +kernel
theorem d4_34 : decode prog_60_method_2_code 34 = .ok (.putfield 7, 3) := by decide +kernel
theorem own_ef_own_setY (m : MethodId) (x0 : Addr) (x1 : UInt64) : entryFrame m #[(.ref x0), (.double x1)] 3 = mkF m 0 #[.val (.ref x0), .val (.double x1), .second] [] := by first | (simp [entryFrame, mkF, argsToLocals, Value.category]; done) | rfl
set_option maxRecDepth 65536 in
set_option maxHeartbeats 40000000 in
theorem own_setY (l : Launch) (Z : State) (a0 : Array Value) (hw : ∀ d ∈ tables_1, d.before a0 Z = true) (ws : List Jvm.Cond) (a : Addr) (x c1 c2 c3 c4 d q r : UInt64) (hc1 : cmpValue (FP.dcmp c3 c4) .l = 1) (hd : FP.dsub c3 c4 = d) (hdn : NoNaN64 d) (hq : FP.ddiv d c1 = q) (hqn : NoNaN64 q) (hr' : FP.dadd c2 q = r) (hrn : NoNaN64 r) (h0 : Heap) (n0 : Nat) (Z0 : n0 ≤ h0.size) (F : own_FC Z h0 a c1 c2 c3 c4) (ga : n0 ≤ a) :
    MetFree l (⟨"com/example/herring/herring/sim/FlowCapacity", "setCarsPerSecond", "(D)V"⟩ : MethodName) (head1 (Jvm.Cond.code (⟨"com/example/herring/herring/sim/FlowCapacity", "setCarsPerSecond", "(D)V"⟩ : MethodName) prog_60_method_2_code 3 none :: ws) ({ frames := 1, cells := 0, slots := 0, locals := 15 } : Room)) (fun av U => av = #[(.ref a), (.double x)] ∧ Z.Warmed39 U.vm ∧ U.heap = h0) (fun _ _ _ _ _ => True) (fun _ U o U' => ∃ v L, o = .returned v ∧ own_QF Z a x r c4 c4 h0 n0 v U'.heap L ∧ FrameEnd U o U' L ({ frames := 1, cells := 0, slots := 0, locals := 15 } : Room).cells ({ frames := 1, cells := 0, slots := 0, locals := 15 } : Room).slots) := by
  refine MetFree.of_bodySF (plainFor_of_name own_pn0) hisR ?_
  intro p e s m args below meth c s₁ Bd hml0 hP hK
  obtain ⟨rfl, hZ, hh⟩ := hP
  have hx := Bd.exec
  have hby := Bd.bytes
  have hml : c.maxLocals = 3 := hml0
  have hown : s.vm.findClass "com/example/herring/herring/sim/FlowCapacity" = some m.cls := findClass_of_methodNamed Bd.named
  have hnm := (name_of_methodNamed Bd.named Bd.method).1
  have X0 : Stand p l e ({ frames := 1, cells := 0, slots := 0, locals := 15 } : Room) s m #[(.ref a), (.double x)] below meth c s₁ [] 0 0 := Stand.of_body Bd
  have e0 : s₁.heap = h0 := by rw [← hh, Bd.state]; rfl
  have N0 := Fr.nil n0
  have pre0 : ∀ t, Steps p.tables e below (s₁.setTop (mkF m 0 #[.val (.ref a), .val (.double x), .second] [])) t → Steps p.tables e below (s₁.setTop (entryFrame m #[(.ref a), (.double x)] 3)) t := fun t k => castTop (own_ef_own_setY m a x) k
  obtain ⟨T1, X1, e1, st1⟩ := getF X0 hx hZ hown (host := "") (Or.inl (hw _ (List.mem_of_getElem? (i := 20) rfl))) Via.refl e0 F.2.2.2.1 (g := (mkF m 1 #[.val (.ref a), .val (.double x), .second] [(.ref a)])) rfl rfl (hb hby d4_1)
  obtain ⟨T2, X2, e2, st2⟩ := getF X1 hx hZ hown (host := "") (Or.inl (hw _ (List.mem_of_getElem? (i := 22) rfl))) Via.refl e1 F.2.2.2.2 (g := (mkF m 5 #[.val (.ref a), .val (.double x), .second] [(.ref a), (.double c3)])) rfl rfl (hb hby d4_5)
  obtain ⟨T3, X3, e3, st3⟩ := getF X2 hx hZ hown (host := "") (Or.inl (hw _ (List.mem_of_getElem? (i := 20) rfl))) Via.refl e2 F.2.2.2.1 (g := (mkF m 15 #[.val (.ref a), .val (.double x), .second] [(.ref a), (.ref a), (.ref a)])) rfl rfl (hb hby d4_15)
  obtain ⟨T4, X4, e4, st4⟩ := getF X3 hx hZ hown (host := "") (Or.inl (hw _ (List.mem_of_getElem? (i := 22) rfl))) Via.refl e3 F.2.2.2.2 (g := (mkF m 19 #[.val (.ref a), .val (.double x), .second] [(.ref a), (.double c3), (.ref a), (.ref a)])) rfl rfl (hb hby d4_19)
  obtain ⟨cl5, q5, q5'⟩ := (F.1).cell
  obtain ⟨_, _, ⟨T5, L5, k5, n5⟩, -, X5, ⟨Lc5, hQ5, l5, y5, z5⟩, st5⟩ := X4.privateBack hx (y := (⟨"com/example/herring/herring/sim/FlowCapacity", "turn", "(D)D"⟩ : MethodName)) hown (mvT hZ (hw _ (List.mem_of_getElem? (i := 36) rfl))) (mvT hZ (hw _ (List.mem_of_getElem? (i := 37) rfl))) (own_selT (z := (⟨"com/example/herring/herring/sim/FlowCapacity", "setCarsPerSecond", "(D)V"⟩ : MethodName)) rfl (mvT hZ (hw _ (List.mem_of_getElem? (i := 18) rfl))) (Cond.privateMethod_at (mvP hZ (hw _ (List.mem_of_getElem? (i := 38) rfl)) (args := #[]))) (mvT hZ (hw _ (List.mem_of_getElem? (i := 37) rfl))) (by decide)) (Cond.privateMethod_at (mvP hZ (hw _ (List.mem_of_getElem? (i := 38) rfl)) (args := #[]))) (mvT hZ (hw _ (List.mem_of_getElem? (i := 39) rfl))) (by decide) (backOf (W := 1) (own_turn l Z a0 hw [] a d c1 c2 c3 c4 q r hq hqn hr' hrn h0 n0 Z0 F) hZ (hw _ (List.mem_of_getElem? (i := 39) rfl)) (hw _ (List.mem_of_getElem? (i := 3) rfl)) (by decide) (by decide)) (g := (mkF m 23 #[.val (.ref a), .val (.double x), .second] [(.double d), (.ref a), (.ref a)])) rfl (by rw [hml]; rfl) (Steps.refl _) (a := a) (by rw [e4]; exact q5) q5' (argsL := [(.double d)]) (rest := [(.ref a)]) (lenOf own_pd2 rfl) rfl (by show 2 * 0 + _ ≤ _; exact Nat.le_of_eq rfl) (hb hby d4_23) (fun _ _ => ⟨rfl, e4, (by decide : 0 + 0 ≤ _), (by decide : 0 + 0 ≤ _)⟩)
  dsimp only [Pt.U, Pt.locs, Pt.cells, Pt.slots] at X5 l5 y5 z5 st5 hQ5
  subst l5 y5 z5
  obtain ⟨rfl, N5, e5⟩ := hQ5
  have N5 := Fr.app N0 N5
  obtain ⟨T6, h6, X6, e6, W6, st6⟩ := putF X5 hx hZ hown (host := "") (Or.inl (hw _ (List.mem_of_getElem? (i := 40) rfl))) Via.refl e5 F.2.2.1 F.1 (Or.inl (hw _ (List.mem_of_getElem? (i := 41) rfl))) (hw _ (List.mem_of_getElem? (i := 2) rfl)) (ty := .double) (by decide) rfl rfl (g := (mkF m 26 #[.val (.ref a), .val (.double x), .second] [(.double r), (.ref a)])) rfl rfl (hb hby d4_26)
  have N6 := Fr.snoc X6 N5 ga
  have K6 : Keep h0 h6 [a] := (Keep.refl h0 [a]).wr W6 (Or.inl (List.mem_of_getElem? (i := 0) rfl))
  have E6 : Exa Z h6 a "com/example/herring/herring/sim/FlowCapacity" := F.1.wr W6
  have F6_carsPerSecond : Fld Z h6 a "com/example/herring/herring/sim/FlowCapacity" "carsPerSecond" "D" (.double c1) := F.2.1.other W6 (Or.inr (slot_ne (Or.inl (hw _ (List.mem_of_getElem? (i := 25) rfl))) (Or.inl (hw _ (List.mem_of_getElem? (i := 41) rfl))) (by decide) (t := .double) (by decide) (t' := .double) (by decide)))
  have F6_stretchStart : Fld Z h6 a "com/example/herring/herring/sim/FlowCapacity" "stretchStart" "D" (.double r) := F.2.2.1.same W6
  have F6_turnsInStretch : Fld Z h6 a "com/example/herring/herring/sim/FlowCapacity" "turnsInStretch" "D" (.double c3) := F.2.2.2.1.other W6 (Or.inr (slot_ne (Or.inl (hw _ (List.mem_of_getElem? (i := 21) rfl))) (Or.inl (hw _ (List.mem_of_getElem? (i := 41) rfl))) (by decide) (t := .double) (by decide) (t' := .double) (by decide)))
  have F6_lastShare : Fld Z h6 a "com/example/herring/herring/sim/FlowCapacity" "lastShare" "D" (.double c4) := F.2.2.2.2.other W6 (Or.inr (slot_ne (Or.inl (hw _ (List.mem_of_getElem? (i := 23) rfl))) (Or.inl (hw _ (List.mem_of_getElem? (i := 41) rfl))) (by decide) (t := .double) (by decide) (t' := .double) (by decide)))
  obtain ⟨T7, X7, e7, st7⟩ := getF X6 hx hZ hown (host := "") (Or.inl (hw _ (List.mem_of_getElem? (i := 22) rfl))) Via.refl e6 F6_lastShare (g := (mkF m 31 #[.val (.ref a), .val (.double x), .second] [(.ref a), (.ref a)])) rfl rfl (hb hby d4_31)
  obtain ⟨T8, h8, X8, e8, W8, st8⟩ := putF X7 hx hZ hown (host := "") (Or.inl (hw _ (List.mem_of_getElem? (i := 20) rfl))) Via.refl e7 F6_turnsInStretch E6 (Or.inl (hw _ (List.mem_of_getElem? (i := 21) rfl))) (hw _ (List.mem_of_getElem? (i := 2) rfl)) (ty := .double) (by decide) rfl rfl (g := (mkF m 34 #[.val (.ref a), .val (.double x), .second] [(.double c4), (.ref a)])) rfl rfl (hb hby d4_34)
  have N8 := Fr.snoc X8 N6 ga
  have K8 : Keep h0 h8 [a] := K6.wr W8 (Or.inl (List.mem_of_getElem? (i := 0) rfl))
  have E8 : Exa Z h8 a "com/example/herring/herring/sim/FlowCapacity" := E6.wr W8
  have F8_carsPerSecond : Fld Z h8 a "com/example/herring/herring/sim/FlowCapacity" "carsPerSecond" "D" (.double c1) := F6_carsPerSecond.other W8 (Or.inr (slot_ne (Or.inl (hw _ (List.mem_of_getElem? (i := 25) rfl))) (Or.inl (hw _ (List.mem_of_getElem? (i := 21) rfl))) (by decide) (t := .double) (by decide) (t' := .double) (by decide)))
  have F8_stretchStart : Fld Z h8 a "com/example/herring/herring/sim/FlowCapacity" "stretchStart" "D" (.double r) := F6_stretchStart.other W8 (Or.inr (slot_ne (Or.inl (hw _ (List.mem_of_getElem? (i := 41) rfl))) (Or.inl (hw _ (List.mem_of_getElem? (i := 21) rfl))) (by decide) (t := .double) (by decide) (t' := .double) (by decide)))
  have F8_turnsInStretch : Fld Z h8 a "com/example/herring/herring/sim/FlowCapacity" "turnsInStretch" "D" (.double c4) := F6_turnsInStretch.same W8
  have F8_lastShare : Fld Z h8 a "com/example/herring/herring/sim/FlowCapacity" "lastShare" "D" (.double c4) := F6_lastShare.other W8 (Or.inr (slot_ne (Or.inl (hw _ (List.mem_of_getElem? (i := 23) rfl))) (Or.inl (hw _ (List.mem_of_getElem? (i := 21) rfl))) (by decide) (t := .double) (by decide) (t' := .double) (by decide)))
  obtain ⟨T9, h9, X9, e9, W9, st9⟩ := putF X8 hx hZ hown (host := "") (Or.inl (hw _ (List.mem_of_getElem? (i := 24) rfl))) Via.refl e8 F8_carsPerSecond E8 (Or.inl (hw _ (List.mem_of_getElem? (i := 25) rfl))) (hw _ (List.mem_of_getElem? (i := 2) rfl)) (ty := .double) (by decide) rfl rfl (g := (mkF m 39 #[.val (.ref a), .val (.double x), .second] [(.double x), (.ref a)])) rfl rfl (hb hby d4_39)
  have N9 := Fr.snoc X9 N8 ga
  have K9 : Keep h0 h9 [a] := K8.wr W9 (Or.inl (List.mem_of_getElem? (i := 0) rfl))
  have E9 : Exa Z h9 a "com/example/herring/herring/sim/FlowCapacity" := E8.wr W9
  have F9_carsPerSecond : Fld Z h9 a "com/example/herring/herring/sim/FlowCapacity" "carsPerSecond" "D" (.double x) := F8_carsPerSecond.same W9
  have F9_stretchStart : Fld Z h9 a "com/example/herring/herring/sim/FlowCapacity" "stretchStart" "D" (.double r) := F8_stretchStart.other W9 (Or.inr (slot_ne (Or.inl (hw _ (List.mem_of_getElem? (i := 41) rfl))) (Or.inl (hw _ (List.mem_of_getElem? (i := 25) rfl))) (by decide) (t := .double) (by decide) (t' := .double) (by decide)))
  have F9_turnsInStretch : Fld Z h9 a "com/example/herring/herring/sim/FlowCapacity" "turnsInStretch" "D" (.double c4) := F8_turnsInStretch.other W9 (Or.inr (slot_ne (Or.inl (hw _ (List.mem_of_getElem? (i := 21) rfl))) (Or.inl (hw _ (List.mem_of_getElem? (i := 25) rfl))) (by decide) (t := .double) (by decide) (t' := .double) (by decide)))
  have F9_lastShare : Fld Z h9 a "com/example/herring/herring/sim/FlowCapacity" "lastShare" "D" (.double c4) := F8_lastShare.other W9 (Or.inr (slot_ne (Or.inl (hw _ (List.mem_of_getElem? (i := 23) rfl))) (Or.inl (hw _ (List.mem_of_getElem? (i := 25) rfl))) (by decide) (t := .double) (by decide) (t' := .double) (by decide)))
  obtain ⟨fs, hr, hrun, hended, hW, hsame⟩ := X9.leave (v := none) (fun _ => rfl)
  refine ⟨_, _, pre0 _ ?_, hrun, hended, _, _, rfl, ?_, ⟨_, rfl⟩, hW, hsame.mono (by decide) (by decide)⟩
  · show Steps p.tables e below (s₁.setTop (mkF m 0 #[.val (.ref a), .val (.double x), .second] [])) _
    refine XS.aloadN X0.here hx rfl (hb hby d4_0) rfl rfl ?_
    show Steps p.tables e below (s₁.setTop (mkF m 1 #[.val (.ref a), .val (.double x), .second] [(.ref a)])) _
    refine st1 _ ?_
    show Steps p.tables e below (T1.setTop (mkF m 4 #[.val (.ref a), .val (.double x), .second] [(.double c3)])) _
    refine XS.aloadN X1.here hx rfl (hb hby d4_4) rfl rfl ?_
    show Steps p.tables e below (T1.setTop (mkF m 5 #[.val (.ref a), .val (.double x), .second] [(.ref a), (.double c3)])) _
    refine st2 _ ?_
    show Steps p.tables e below (T2.setTop (mkF m 8 #[.val (.ref a), .val (.double x), .second] [(.double c4), (.double c3)])) _
    refine XS.dcmpS X2.here hx rfl (hb hby d4_8) rfl hc1 ?_
    show Steps p.tables e below (T2.setTop (mkF m 9 #[.val (.ref a), .val (.double x), .second] [(.int 1)])) _
    refine XS.ifNo X2.here hx rfl (hb hby d4_9) rfl (by decide) ?_
    show Steps p.tables e below (T2.setTop (mkF m 12 #[.val (.ref a), .val (.double x), .second] [])) _
    refine XS.aloadN X2.here hx rfl (hb hby d4_12) rfl rfl ?_
    show Steps p.tables e below (T2.setTop (mkF m 13 #[.val (.ref a), .val (.double x), .second] [(.ref a)])) _
    refine XS.aloadN X2.here hx rfl (hb hby d4_13) rfl rfl ?_
    show Steps p.tables e below (T2.setTop (mkF m 14 #[.val (.ref a), .val (.double x), .second] [(.ref a), (.ref a)])) _
    refine XS.aloadN X2.here hx rfl (hb hby d4_14) rfl rfl ?_
    show Steps p.tables e below (T2.setTop (mkF m 15 #[.val (.ref a), .val (.double x), .second] [(.ref a), (.ref a), (.ref a)])) _
    refine st3 _ ?_
    show Steps p.tables e below (T3.setTop (mkF m 18 #[.val (.ref a), .val (.double x), .second] [(.double c3), (.ref a), (.ref a)])) _
    refine XS.aloadN X3.here hx rfl (hb hby d4_18) rfl rfl ?_
    show Steps p.tables e below (T3.setTop (mkF m 19 #[.val (.ref a), .val (.double x), .second] [(.ref a), (.double c3), (.ref a), (.ref a)])) _
    refine st4 _ ?_
    show Steps p.tables e below (T4.setTop (mkF m 22 #[.val (.ref a), .val (.double x), .second] [(.double c4), (.double c3), (.ref a), (.ref a)])) _
    refine XS.dsubS X4.here hx rfl (hb hby d4_22) rfl (by rw [hd]; exact hdn) hd ?_
    show Steps p.tables e below (T4.setTop (mkF m 23 #[.val (.ref a), .val (.double x), .second] [(.double d), (.ref a), (.ref a)])) _
    refine st5.trans ?_
    show Steps p.tables e below (T5.setTop (mkF m 26 #[.val (.ref a), .val (.double x), .second] [(.double r), (.ref a)])) _
    refine st6 _ ?_
    show Steps p.tables e below (T6.setTop (mkF m 29 #[.val (.ref a), .val (.double x), .second] [])) _
    refine XS.aloadN X6.here hx rfl (hb hby d4_29) rfl rfl ?_
    show Steps p.tables e below (T6.setTop (mkF m 30 #[.val (.ref a), .val (.double x), .second] [(.ref a)])) _
    refine XS.aloadN X6.here hx rfl (hb hby d4_30) rfl rfl ?_
    show Steps p.tables e below (T6.setTop (mkF m 31 #[.val (.ref a), .val (.double x), .second] [(.ref a), (.ref a)])) _
    refine st7 _ ?_
    show Steps p.tables e below (T7.setTop (mkF m 34 #[.val (.ref a), .val (.double x), .second] [(.double c4), (.ref a)])) _
    refine st8 _ ?_
    show Steps p.tables e below (T8.setTop (mkF m 37 #[.val (.ref a), .val (.double x), .second] [])) _
    refine XS.aloadN X8.here hx rfl (hb hby d4_37) rfl rfl ?_
    show Steps p.tables e below (T8.setTop (mkF m 38 #[.val (.ref a), .val (.double x), .second] [(.ref a)])) _
    refine XS.dloadN X8.here hx rfl (hb hby d4_38) rfl ?_
    show Steps p.tables e below (T8.setTop (mkF m 39 #[.val (.ref a), .val (.double x), .second] [(.double x), (.ref a)])) _
    refine st9 _ ?_
    show Steps p.tables e below (T9.setTop (mkF m 42 #[.val (.ref a), .val (.double x), .second] [])) _
    exact X9.returnOut hx Bd.returns (hb hby d4_42) hr
  · show own_QF Z a x r c4 c4 h0 n0 _ T9.heap _
    rw [e9]; exact ⟨rfl, N9, K9, E9, F9_carsPerSecond, F9_stretchStart, F9_turnsInStretch, F9_lastShare⟩
theorem own_pd3 : parseMethodDescriptor "()J" = some ⟨[], some .long⟩ := by decide +kernel
theorem d5_0 : decode prog_60_method_4_code 0 = .ok (.iload_n 1, 1) := by decide +kernel
theorem d5_1 : decode prog_60_method_4_code 1 = .ok (.i2l, 1) := by decide +kernel
theorem d5_2 : decode prog_60_method_4_code 2 = .ok (.aload_n 0, 1) := by decide +kernel
theorem d5_3 : decode prog_60_method_4_code 3 = .ok (.invokevirtual 26, 3) := by decide +kernel
theorem d5_6 : decode prog_60_method_4_code 6 = .ok (.lcmp, 1) := by decide +kernel
theorem d5_7 : decode prog_60_method_4_code 7 = .ok (.ifCond .le 14, 3) := by decide +kernel
theorem d5_10 : decode prog_60_method_4_code 10 = .ok (.aload_n 0, 1) := by decide +kernel
theorem d5_11 : decode prog_60_method_4_code 11 = .ok (.iload_n 1, 1) := by decide +kernel
theorem d5_12 : decode prog_60_method_4_code 12 = .ok (.i2d, 1) := by decide +kernel
theorem d5_13 : decode prog_60_method_4_code 13 = .ok (.putfield 20, 3) := by decide +kernel
theorem d5_16 : decode prog_60_method_4_code 16 = .ok (.aload_n 0, 1) := by decide +kernel
theorem d5_17 : decode prog_60_method_4_code 17 = .ok (.dconst 0, 1) := by decide +kernel
theorem d5_18 : decode prog_60_method_4_code 18 = .ok (.putfield 7, 3) := by decide +kernel
theorem d5_21 : decode prog_60_method_4_code 21 = .ok (.aload_n 0, 1) := by decide +kernel
theorem d5_22 : decode prog_60_method_4_code 22 = .ok (.dup, 1) := by decide +kernel
theorem d5_23 : decode prog_60_method_4_code 23 = .ok (.getfield 7, 3) := by decide +kernel
theorem d5_26 : decode prog_60_method_4_code 26 = .ok (.dload_n 2, 1) := by decide +kernel
theorem d5_27 : decode prog_60_method_4_code 27 = .ok (.dadd, 1) := by decide +kernel
theorem d5_28 : decode prog_60_method_4_code 28 = .ok (.putfield 7, 3) := by decide +kernel
theorem d5_31 : decode prog_60_method_4_code 31 = .ok (.aload_n 0, 1) := by decide +kernel
theorem d5_32 : decode prog_60_method_4_code 32 = .ok (.dload_n 2, 1) := by decide +kernel
theorem d5_33 : decode prog_60_method_4_code 33 = .ok (.putfield 13, 3) := by decide +kernel
theorem d5_36 : decode prog_60_method_4_code 36 = .ok (.return_, 1) := by decide +kernel
theorem own_ef_own_countY (m : MethodId) (x0 : Addr) (x1 : Int32) (x2 : UInt64) : entryFrame m #[(.ref x0), (.int x1), (.double x2)] 4 = mkF m 0 #[.val (.ref x0), .val (.int x1), .val (.double x2), .second] [] := by first | (simp [entryFrame, mkF, argsToLocals, Value.category]; done) | rfl
set_option maxRecDepth 65536 in
set_option maxHeartbeats 40000000 in
theorem own_countY (l : Launch) (Z : State) (a0 : Array Value) (hw : ∀ d ∈ tables_1, d.before a0 Z = true) (ws : List Jvm.Cond) (a : Addr) (now : Int32) (x c1 c2 c3 c4 q : UInt64) (n : Nat) (hn38 : n + 1 < 2 ^ 37 + 2 ^ 20) (hn126 : n % 128 ≤ 126) (hc1 : cmpValue (FP.dcmp c1 0) .l = 1) (hq : FP.ddiv c3 c1 = q) (hqn : NoNaN64 q) (hr' : FP.dadd c2 q = own_enc n) (x2 : UInt64) (hlt : (Int32.ofNat (n / 128)).toInt64 < now.toInt64) (hx2 : FP.dadd 0 x = x2) (hx2n : NoNaN64 x2) (h0 : Heap) (n0 : Nat) (Z0 : n0 ≤ h0.size) (F : own_FC Z h0 a c1 c2 c3 c4) (ga : n0 ≤ a) (S : Sta Z h0 "java/lang/StrictMath" "$assertionsDisabled" "Z" (.int 1)) :
    MetFree l (⟨"com/example/herring/herring/sim/FlowCapacity", "count", "(ID)V"⟩ : MethodName) (head1 (Jvm.Cond.code (⟨"com/example/herring/herring/sim/FlowCapacity", "count", "(ID)V"⟩ : MethodName) prog_60_method_4_code 4 none :: ws) ({ frames := 8, cells := 0, slots := 0, locals := 182 } : Room)) (fun av U => av = #[(.ref a), (.int now), (.double x)] ∧ Z.Warmed39 U.vm ∧ U.heap = h0) (fun _ _ _ _ _ => True) (fun _ U o U' => ∃ v L, o = .returned v ∧ own_QF Z a c1 (FP.i2d now) x2 x h0 n0 v U'.heap L ∧ FrameEnd U o U' L ({ frames := 8, cells := 0, slots := 0, locals := 182 } : Room).cells ({ frames := 8, cells := 0, slots := 0, locals := 182 } : Room).slots) := by
  refine MetFree.of_bodySF (plainFor_of_name own_pn0) hisR ?_
  intro p e s m args below meth c s₁ Bd hml0 hP hK
  obtain ⟨rfl, hZ, hh⟩ := hP
  have hx := Bd.exec
  have hby := Bd.bytes
  have hml : c.maxLocals = 4 := hml0
  have hown : s.vm.findClass "com/example/herring/herring/sim/FlowCapacity" = some m.cls := findClass_of_methodNamed Bd.named
  have hnm := (name_of_methodNamed Bd.named Bd.method).1
  have X0 : Stand p l e ({ frames := 8, cells := 0, slots := 0, locals := 182 } : Room) s m #[(.ref a), (.int now), (.double x)] below meth c s₁ [] 0 0 := Stand.of_body Bd
  have e0 : s₁.heap = h0 := by rw [← hh, Bd.state]; rfl
  have N0 := Fr.nil n0
  have pre0 : ∀ t, Steps p.tables e below (s₁.setTop (mkF m 0 #[.val (.ref a), .val (.int now), .val (.double x), .second] [])) t → Steps p.tables e below (s₁.setTop (entryFrame m #[(.ref a), (.int now), (.double x)] 4)) t := fun t k => castTop (own_ef_own_countY m a now x) k
  obtain ⟨cq1, kq1, q1a, q1b, q1c⟩ := isOf hZ e0 F.1
  obtain ⟨_, _, ⟨T1, L1, k1, n1⟩, -, X1, ⟨Lc1, hQ1, l1, y1, z1⟩, st1⟩ := X0.virtualBack hx (y := (⟨"com/example/herring/herring/sim/FlowCapacity", "nextSecond", "()J"⟩ : MethodName)) (z := (⟨"com/example/herring/herring/sim/FlowCapacity", "nextSecond", "()J"⟩ : MethodName)) hown (mvT hZ (hw _ (List.mem_of_getElem? (i := 31) rfl))) (mvT hZ (hw _ (List.mem_of_getElem? (i := 32) rfl))) (notFace_of_selects (args := #[]) (mvT hZ (hw _ (List.mem_of_getElem? (i := 34) rfl)))) (mvT hZ (hw _ (List.mem_of_getElem? (i := 34) rfl))) (mvT hZ (hw _ (List.mem_of_getElem? (i := 33) rfl))) (by decide) (backOf (W := 2) (own_next l Z a0 hw [] a c1 c2 c3 c4 q n hn38 hn126 hc1 hq hqn hr' h0 n0 Z0 F S) hZ (hw _ (List.mem_of_getElem? (i := 35) rfl)) (hw _ (List.mem_of_getElem? (i := 3) rfl)) (by decide) (by decide)) q1a q1c (g := (mkF m 3 #[.val (.ref a), .val (.int now), .val (.double x), .second] [(.ref a), (.long now.toInt64)])) rfl (by rw [hml]; rfl) (Steps.refl _) (argsL := []) (rest := [(.long now.toInt64)]) (lenOf own_pd3 rfl) rfl (by show 2 * 0 + _ ≤ _; exact Nat.le_of_eq rfl) (hb hby d5_3) (fun _ _ => ⟨rfl, e0, (by decide : 0 + 0 ≤ _), (by decide : 0 + 0 ≤ _)⟩)
  dsimp only [Pt.U, Pt.locs, Pt.cells, Pt.slots] at X1 l1 y1 z1 st1 hQ1
  subst l1 y1 z1
  obtain ⟨rfl, N1, e1⟩ := hQ1
  have N1 := Fr.app N0 N1
  obtain ⟨T2, h2, X2, e2, W2, st2⟩ := putF X1 hx hZ hown (host := "") (Or.inl (hw _ (List.mem_of_getElem? (i := 40) rfl))) Via.refl e1 F.2.2.1 F.1 (Or.inl (hw _ (List.mem_of_getElem? (i := 41) rfl))) (hw _ (List.mem_of_getElem? (i := 2) rfl)) (ty := .double) (by decide) rfl rfl (g := (mkF m 13 #[.val (.ref a), .val (.int now), .val (.double x), .second] [(.double (FP.i2d now)), (.ref a)])) rfl rfl (hb hby d5_13)
  have N2 := Fr.snoc X2 N1 ga
  have K2 : Keep h0 h2 [a] := (Keep.refl h0 [a]).wr W2 (Or.inl (List.mem_of_getElem? (i := 0) rfl))
  have E2 : Exa Z h2 a "com/example/herring/herring/sim/FlowCapacity" := F.1.wr W2
  have F2_carsPerSecond : Fld Z h2 a "com/example/herring/herring/sim/FlowCapacity" "carsPerSecond" "D" (.double c1) := F.2.1.other W2 (Or.inr (slot_ne (Or.inl (hw _ (List.mem_of_getElem? (i := 25) rfl))) (Or.inl (hw _ (List.mem_of_getElem? (i := 41) rfl))) (by decide) (t := .double) (by decide) (t' := .double) (by decide)))
  have F2_stretchStart : Fld Z h2 a "com/example/herring/herring/sim/FlowCapacity" "stretchStart" "D" (.double (FP.i2d now)) := F.2.2.1.same W2
  have F2_turnsInStretch : Fld Z h2 a "com/example/herring/herring/sim/FlowCapacity" "turnsInStretch" "D" (.double c3) := F.2.2.2.1.other W2 (Or.inr (slot_ne (Or.inl (hw _ (List.mem_of_getElem? (i := 21) rfl))) (Or.inl (hw _ (List.mem_of_getElem? (i := 41) rfl))) (by decide) (t := .double) (by decide) (t' := .double) (by decide)))
  have F2_lastShare : Fld Z h2 a "com/example/herring/herring/sim/FlowCapacity" "lastShare" "D" (.double c4) := F.2.2.2.2.other W2 (Or.inr (slot_ne (Or.inl (hw _ (List.mem_of_getElem? (i := 23) rfl))) (Or.inl (hw _ (List.mem_of_getElem? (i := 41) rfl))) (by decide) (t := .double) (by decide) (t' := .double) (by decide)))
  obtain ⟨T3, h3, X3, e3, W3, st3⟩ := putF X2 hx hZ hown (host := "") (Or.inl (hw _ (List.mem_of_getElem? (i := 20) rfl))) Via.refl e2 F2_turnsInStretch E2 (Or.inl (hw _ (List.mem_of_getElem? (i := 21) rfl))) (hw _ (List.mem_of_getElem? (i := 2) rfl)) (ty := .double) (by decide) rfl rfl (g := (mkF m 18 #[.val (.ref a), .val (.int now), .val (.double x), .second] [(.double 0), (.ref a)])) rfl rfl (hb hby d5_18)
  have N3 := Fr.snoc X3 N2 ga
  have K3 : Keep h0 h3 [a] := K2.wr W3 (Or.inl (List.mem_of_getElem? (i := 0) rfl))
  have E3 : Exa Z h3 a "com/example/herring/herring/sim/FlowCapacity" := E2.wr W3
  have F3_carsPerSecond : Fld Z h3 a "com/example/herring/herring/sim/FlowCapacity" "carsPerSecond" "D" (.double c1) := F2_carsPerSecond.other W3 (Or.inr (slot_ne (Or.inl (hw _ (List.mem_of_getElem? (i := 25) rfl))) (Or.inl (hw _ (List.mem_of_getElem? (i := 21) rfl))) (by decide) (t := .double) (by decide) (t' := .double) (by decide)))
  have F3_stretchStart : Fld Z h3 a "com/example/herring/herring/sim/FlowCapacity" "stretchStart" "D" (.double (FP.i2d now)) := F2_stretchStart.other W3 (Or.inr (slot_ne (Or.inl (hw _ (List.mem_of_getElem? (i := 41) rfl))) (Or.inl (hw _ (List.mem_of_getElem? (i := 21) rfl))) (by decide) (t := .double) (by decide) (t' := .double) (by decide)))
  have F3_turnsInStretch : Fld Z h3 a "com/example/herring/herring/sim/FlowCapacity" "turnsInStretch" "D" (.double 0) := F2_turnsInStretch.same W3
  have F3_lastShare : Fld Z h3 a "com/example/herring/herring/sim/FlowCapacity" "lastShare" "D" (.double c4) := F2_lastShare.other W3 (Or.inr (slot_ne (Or.inl (hw _ (List.mem_of_getElem? (i := 23) rfl))) (Or.inl (hw _ (List.mem_of_getElem? (i := 21) rfl))) (by decide) (t := .double) (by decide) (t' := .double) (by decide)))
  obtain ⟨T4, X4, e4, st4⟩ := getF X3 hx hZ hown (host := "") (Or.inl (hw _ (List.mem_of_getElem? (i := 20) rfl))) Via.refl e3 F3_turnsInStretch (g := (mkF m 23 #[.val (.ref a), .val (.int now), .val (.double x), .second] [(.ref a), (.ref a)])) rfl rfl (hb hby d5_23)
  obtain ⟨T5, h5, X5, e5, W5, st5⟩ := putF X4 hx hZ hown (host := "") (Or.inl (hw _ (List.mem_of_getElem? (i := 20) rfl))) Via.refl e4 F3_turnsInStretch E3 (Or.inl (hw _ (List.mem_of_getElem? (i := 21) rfl))) (hw _ (List.mem_of_getElem? (i := 2) rfl)) (ty := .double) (by decide) rfl rfl (g := (mkF m 28 #[.val (.ref a), .val (.int now), .val (.double x), .second] [(.double x2), (.ref a)])) rfl rfl (hb hby d5_28)
  have N5 := Fr.snoc X5 N3 ga
  have K5 : Keep h0 h5 [a] := K3.wr W5 (Or.inl (List.mem_of_getElem? (i := 0) rfl))
  have E5 : Exa Z h5 a "com/example/herring/herring/sim/FlowCapacity" := E3.wr W5
  have F5_carsPerSecond : Fld Z h5 a "com/example/herring/herring/sim/FlowCapacity" "carsPerSecond" "D" (.double c1) := F3_carsPerSecond.other W5 (Or.inr (slot_ne (Or.inl (hw _ (List.mem_of_getElem? (i := 25) rfl))) (Or.inl (hw _ (List.mem_of_getElem? (i := 21) rfl))) (by decide) (t := .double) (by decide) (t' := .double) (by decide)))
  have F5_stretchStart : Fld Z h5 a "com/example/herring/herring/sim/FlowCapacity" "stretchStart" "D" (.double (FP.i2d now)) := F3_stretchStart.other W5 (Or.inr (slot_ne (Or.inl (hw _ (List.mem_of_getElem? (i := 41) rfl))) (Or.inl (hw _ (List.mem_of_getElem? (i := 21) rfl))) (by decide) (t := .double) (by decide) (t' := .double) (by decide)))
  have F5_turnsInStretch : Fld Z h5 a "com/example/herring/herring/sim/FlowCapacity" "turnsInStretch" "D" (.double x2) := F3_turnsInStretch.same W5
  have F5_lastShare : Fld Z h5 a "com/example/herring/herring/sim/FlowCapacity" "lastShare" "D" (.double c4) := F3_lastShare.other W5 (Or.inr (slot_ne (Or.inl (hw _ (List.mem_of_getElem? (i := 23) rfl))) (Or.inl (hw _ (List.mem_of_getElem? (i := 21) rfl))) (by decide) (t := .double) (by decide) (t' := .double) (by decide)))
  obtain ⟨T6, h6, X6, e6, W6, st6⟩ := putF X5 hx hZ hown (host := "") (Or.inl (hw _ (List.mem_of_getElem? (i := 22) rfl))) Via.refl e5 F5_lastShare E5 (Or.inl (hw _ (List.mem_of_getElem? (i := 23) rfl))) (hw _ (List.mem_of_getElem? (i := 2) rfl)) (ty := .double) (by decide) rfl rfl (g := (mkF m 33 #[.val (.ref a), .val (.int now), .val (.double x), .second] [(.double x), (.ref a)])) rfl rfl (hb hby d5_33)
  have N6 := Fr.snoc X6 N5 ga
  have K6 : Keep h0 h6 [a] := K5.wr W6 (Or.inl (List.mem_of_getElem? (i := 0) rfl))
  have E6 : Exa Z h6 a "com/example/herring/herring/sim/FlowCapacity" := E5.wr W6
  have F6_carsPerSecond : Fld Z h6 a "com/example/herring/herring/sim/FlowCapacity" "carsPerSecond" "D" (.double c1) := F5_carsPerSecond.other W6 (Or.inr (slot_ne (Or.inl (hw _ (List.mem_of_getElem? (i := 25) rfl))) (Or.inl (hw _ (List.mem_of_getElem? (i := 23) rfl))) (by decide) (t := .double) (by decide) (t' := .double) (by decide)))
  have F6_stretchStart : Fld Z h6 a "com/example/herring/herring/sim/FlowCapacity" "stretchStart" "D" (.double (FP.i2d now)) := F5_stretchStart.other W6 (Or.inr (slot_ne (Or.inl (hw _ (List.mem_of_getElem? (i := 41) rfl))) (Or.inl (hw _ (List.mem_of_getElem? (i := 23) rfl))) (by decide) (t := .double) (by decide) (t' := .double) (by decide)))
  have F6_turnsInStretch : Fld Z h6 a "com/example/herring/herring/sim/FlowCapacity" "turnsInStretch" "D" (.double x2) := F5_turnsInStretch.other W6 (Or.inr (slot_ne (Or.inl (hw _ (List.mem_of_getElem? (i := 21) rfl))) (Or.inl (hw _ (List.mem_of_getElem? (i := 23) rfl))) (by decide) (t := .double) (by decide) (t' := .double) (by decide)))
  have F6_lastShare : Fld Z h6 a "com/example/herring/herring/sim/FlowCapacity" "lastShare" "D" (.double x) := F5_lastShare.same W6
  obtain ⟨fs, hr, hrun, hended, hW, hsame⟩ := X6.leave (v := none) (fun _ => rfl)
  refine ⟨_, _, pre0 _ ?_, hrun, hended, _, _, rfl, ?_, ⟨_, rfl⟩, hW, hsame.mono (by decide) (by decide)⟩
  · show Steps p.tables e below (s₁.setTop (mkF m 0 #[.val (.ref a), .val (.int now), .val (.double x), .second] [])) _
    refine XS.iloadN X0.here hx rfl (hb hby d5_0) rfl ?_
    show Steps p.tables e below (s₁.setTop (mkF m 1 #[.val (.ref a), .val (.int now), .val (.double x), .second] [(.int now)])) _
    refine XT.i2l X0.here hx rfl (hb hby d5_1) rfl ?_
    show Steps p.tables e below (s₁.setTop (mkF m 2 #[.val (.ref a), .val (.int now), .val (.double x), .second] [(.long now.toInt64)])) _
    refine XS.aloadN X0.here hx rfl (hb hby d5_2) rfl rfl ?_
    show Steps p.tables e below (s₁.setTop (mkF m 3 #[.val (.ref a), .val (.int now), .val (.double x), .second] [(.ref a), (.long now.toInt64)])) _
    refine st1.trans ?_
    show Steps p.tables e below (T1.setTop (mkF m 6 #[.val (.ref a), .val (.int now), .val (.double x), .second] [(.long ((Int32.ofNat (n / 128)).toInt64)), (.long now.toInt64)])) _
    refine XT.lcmp X1.here hx rfl (hb hby d5_6) rfl ?_
    show Steps p.tables e below (T1.setTop (mkF m 7 #[.val (.ref a), .val (.int now), .val (.double x), .second] [(.int (XT.cmpL now.toInt64 ((Int32.ofNat (n / 128)).toInt64)))])) _
    refine XS.ifNo X1.here hx rfl (hb hby d5_7) rfl (XT.ll_le_f hlt) ?_
    show Steps p.tables e below (T1.setTop (mkF m 10 #[.val (.ref a), .val (.int now), .val (.double x), .second] [])) _
    refine XS.aloadN X1.here hx rfl (hb hby d5_10) rfl rfl ?_
    show Steps p.tables e below (T1.setTop (mkF m 11 #[.val (.ref a), .val (.int now), .val (.double x), .second] [(.ref a)])) _
    refine XS.iloadN X1.here hx rfl (hb hby d5_11) rfl ?_
    show Steps p.tables e below (T1.setTop (mkF m 12 #[.val (.ref a), .val (.int now), .val (.double x), .second] [(.int now), (.ref a)])) _
    refine XS.i2dS X1.here hx rfl (hb hby d5_12) rfl rfl ?_
    show Steps p.tables e below (T1.setTop (mkF m 13 #[.val (.ref a), .val (.int now), .val (.double x), .second] [(.double (FP.i2d now)), (.ref a)])) _
    refine st2 _ ?_
    show Steps p.tables e below (T2.setTop (mkF m 16 #[.val (.ref a), .val (.int now), .val (.double x), .second] [])) _
    refine XS.aloadN X2.here hx rfl (hb hby d5_16) rfl rfl ?_
    show Steps p.tables e below (T2.setTop (mkF m 17 #[.val (.ref a), .val (.int now), .val (.double x), .second] [(.ref a)])) _
    refine XS.dconst0 X2.here hx rfl (hb hby d5_17) rfl ?_
    show Steps p.tables e below (T2.setTop (mkF m 18 #[.val (.ref a), .val (.int now), .val (.double x), .second] [(.double 0), (.ref a)])) _
    refine st3 _ ?_
    show Steps p.tables e below (T3.setTop (mkF m 21 #[.val (.ref a), .val (.int now), .val (.double x), .second] [])) _
    refine XS.aloadN X3.here hx rfl (hb hby d5_21) rfl rfl ?_
    show Steps p.tables e below (T3.setTop (mkF m 22 #[.val (.ref a), .val (.int now), .val (.double x), .second] [(.ref a)])) _
    refine XS.dup X3.here hx rfl (hb hby d5_22) rfl rfl ?_
    show Steps p.tables e below (T3.setTop (mkF m 23 #[.val (.ref a), .val (.int now), .val (.double x), .second] [(.ref a), (.ref a)])) _
    refine st4 _ ?_
    show Steps p.tables e below (T4.setTop (mkF m 26 #[.val (.ref a), .val (.int now), .val (.double x), .second] [(.double 0), (.ref a)])) _
    refine XS.dloadN X4.here hx rfl (hb hby d5_26) rfl ?_
    show Steps p.tables e below (T4.setTop (mkF m 27 #[.val (.ref a), .val (.int now), .val (.double x), .second] [(.double x), (.double 0), (.ref a)])) _
    refine XS.daddS X4.here hx rfl (hb hby d5_27) rfl (by rw [hx2]; exact hx2n) hx2 ?_
    show Steps p.tables e below (T4.setTop (mkF m 28 #[.val (.ref a), .val (.int now), .val (.double x), .second] [(.double x2), (.ref a)])) _
    refine st5 _ ?_
    show Steps p.tables e below (T5.setTop (mkF m 31 #[.val (.ref a), .val (.int now), .val (.double x), .second] [])) _
    refine XS.aloadN X5.here hx rfl (hb hby d5_31) rfl rfl ?_
    show Steps p.tables e below (T5.setTop (mkF m 32 #[.val (.ref a), .val (.int now), .val (.double x), .second] [(.ref a)])) _
    refine XS.dloadN X5.here hx rfl (hb hby d5_32) rfl ?_
    show Steps p.tables e below (T5.setTop (mkF m 33 #[.val (.ref a), .val (.int now), .val (.double x), .second] [(.double x), (.ref a)])) _
    refine st6 _ ?_
    show Steps p.tables e below (T6.setTop (mkF m 36 #[.val (.ref a), .val (.int now), .val (.double x), .second] [])) _
    exact X6.returnOut hx Bd.returns (hb hby d5_36) hr
  · show own_QF Z a c1 (FP.i2d now) x2 x h0 n0 _ T6.heap _
    rw [e6]; exact ⟨rfl, N6, K6, E6, F6_carsPerSecond, F6_stretchStart, F6_turnsInStretch, F6_lastShare⟩
theorem own_ef_own_countN (m : MethodId) (x0 : Addr) (x1 : Int32) (x2 : UInt64) : entryFrame m #[(.ref x0), (.int x1), (.double x2)] 4 = mkF m 0 #[.val (.ref x0), .val (.int x1), .val (.double x2), .second] [] := by first | (simp [entryFrame, mkF, argsToLocals, Value.category]; done) | rfl
set_option maxRecDepth 65536 in
set_option maxHeartbeats 40000000 in
theorem own_countN (l : Launch) (Z : State) (a0 : Array Value) (hw : ∀ d ∈ tables_1, d.before a0 Z = true) (ws : List Jvm.Cond) (a : Addr) (now : Int32) (x c1 c2 c3 c4 q : UInt64) (n : Nat) (hn38 : n + 1 < 2 ^ 37 + 2 ^ 20) (hn126 : n % 128 ≤ 126) (hc1 : cmpValue (FP.dcmp c1 0) .l = 1) (hq : FP.ddiv c3 c1 = q) (hqn : NoNaN64 q) (hr' : FP.dadd c2 q = own_enc n) (x2 : UInt64) (hlt : ¬ (Int32.ofNat (n / 128)).toInt64 < now.toInt64) (hx2 : FP.dadd c3 x = x2) (hx2n : NoNaN64 x2) (h0 : Heap) (n0 : Nat) (Z0 : n0 ≤ h0.size) (F : own_FC Z h0 a c1 c2 c3 c4) (ga : n0 ≤ a) (S : Sta Z h0 "java/lang/StrictMath" "$assertionsDisabled" "Z" (.int 1)) :
    MetFree l (⟨"com/example/herring/herring/sim/FlowCapacity", "count", "(ID)V"⟩ : MethodName) (head1 (Jvm.Cond.code (⟨"com/example/herring/herring/sim/FlowCapacity", "count", "(ID)V"⟩ : MethodName) prog_60_method_4_code 4 none :: ws) ({ frames := 8, cells := 0, slots := 0, locals := 182 } : Room)) (fun av U => av = #[(.ref a), (.int now), (.double x)] ∧ Z.Warmed39 U.vm ∧ U.heap = h0) (fun _ _ _ _ _ => True) (fun _ U o U' => ∃ v L, o = .returned v ∧ own_QF Z a c1 c2 x2 x h0 n0 v U'.heap L ∧ FrameEnd U o U' L ({ frames := 8, cells := 0, slots := 0, locals := 182 } : Room).cells ({ frames := 8, cells := 0, slots := 0, locals := 182 } : Room).slots) := by
  refine MetFree.of_bodySF (plainFor_of_name own_pn0) hisR ?_
  intro p e s m args below meth c s₁ Bd hml0 hP hK
  obtain ⟨rfl, hZ, hh⟩ := hP
  have hx := Bd.exec
  have hby := Bd.bytes
  have hml : c.maxLocals = 4 := hml0
  have hown : s.vm.findClass "com/example/herring/herring/sim/FlowCapacity" = some m.cls := findClass_of_methodNamed Bd.named
  have hnm := (name_of_methodNamed Bd.named Bd.method).1
  have X0 : Stand p l e ({ frames := 8, cells := 0, slots := 0, locals := 182 } : Room) s m #[(.ref a), (.int now), (.double x)] below meth c s₁ [] 0 0 := Stand.of_body Bd
  have e0 : s₁.heap = h0 := by rw [← hh, Bd.state]; rfl
  have N0 := Fr.nil n0
  have pre0 : ∀ t, Steps p.tables e below (s₁.setTop (mkF m 0 #[.val (.ref a), .val (.int now), .val (.double x), .second] [])) t → Steps p.tables e below (s₁.setTop (entryFrame m #[(.ref a), (.int now), (.double x)] 4)) t := fun t k => castTop (own_ef_own_countN m a now x) k
  obtain ⟨cq1, kq1, q1a, q1b, q1c⟩ := isOf hZ e0 F.1
  obtain ⟨_, _, ⟨T1, L1, k1, n1⟩, -, X1, ⟨Lc1, hQ1, l1, y1, z1⟩, st1⟩ := X0.virtualBack hx (y := (⟨"com/example/herring/herring/sim/FlowCapacity", "nextSecond", "()J"⟩ : MethodName)) (z := (⟨"com/example/herring/herring/sim/FlowCapacity", "nextSecond", "()J"⟩ : MethodName)) hown (mvT hZ (hw _ (List.mem_of_getElem? (i := 31) rfl))) (mvT hZ (hw _ (List.mem_of_getElem? (i := 32) rfl))) (notFace_of_selects (args := #[]) (mvT hZ (hw _ (List.mem_of_getElem? (i := 34) rfl)))) (mvT hZ (hw _ (List.mem_of_getElem? (i := 34) rfl))) (mvT hZ (hw _ (List.mem_of_getElem? (i := 33) rfl))) (by decide) (backOf (W := 2) (own_next l Z a0 hw [] a c1 c2 c3 c4 q n hn38 hn126 hc1 hq hqn hr' h0 n0 Z0 F S) hZ (hw _ (List.mem_of_getElem? (i := 35) rfl)) (hw _ (List.mem_of_getElem? (i := 3) rfl)) (by decide) (by decide)) q1a q1c (g := (mkF m 3 #[.val (.ref a), .val (.int now), .val (.double x), .second] [(.ref a), (.long now.toInt64)])) rfl (by rw [hml]; rfl) (Steps.refl _) (argsL := []) (rest := [(.long now.toInt64)]) (lenOf own_pd3 rfl) rfl (by show 2 * 0 + _ ≤ _; exact Nat.le_of_eq rfl) (hb hby d5_3) (fun _ _ => ⟨rfl, e0, (by decide : 0 + 0 ≤ _), (by decide : 0 + 0 ≤ _)⟩)
  dsimp only [Pt.U, Pt.locs, Pt.cells, Pt.slots] at X1 l1 y1 z1 st1 hQ1
  subst l1 y1 z1
  obtain ⟨rfl, N1, e1⟩ := hQ1
  have N1 := Fr.app N0 N1
  obtain ⟨T2, X2, e2, st2⟩ := getF X1 hx hZ hown (host := "") (Or.inl (hw _ (List.mem_of_getElem? (i := 20) rfl))) Via.refl e1 F.2.2.2.1 (g := (mkF m 23 #[.val (.ref a), .val (.int now), .val (.double x), .second] [(.ref a), (.ref a)])) rfl rfl (hb hby d5_23)
  obtain ⟨T3, h3, X3, e3, W3, st3⟩ := putF X2 hx hZ hown (host := "") (Or.inl (hw _ (List.mem_of_getElem? (i := 20) rfl))) Via.refl e2 F.2.2.2.1 F.1 (Or.inl (hw _ (List.mem_of_getElem? (i := 21) rfl))) (hw _ (List.mem_of_getElem? (i := 2) rfl)) (ty := .double) (by decide) rfl rfl (g := (mkF m 28 #[.val (.ref a), .val (.int now), .val (.double x), .second] [(.double x2), (.ref a)])) rfl rfl (hb hby d5_28)
  have N3 := Fr.snoc X3 N1 ga
  have K3 : Keep h0 h3 [a] := (Keep.refl h0 [a]).wr W3 (Or.inl (List.mem_of_getElem? (i := 0) rfl))
  have E3 : Exa Z h3 a "com/example/herring/herring/sim/FlowCapacity" := F.1.wr W3
  have F3_carsPerSecond : Fld Z h3 a "com/example/herring/herring/sim/FlowCapacity" "carsPerSecond" "D" (.double c1) := F.2.1.other W3 (Or.inr (slot_ne (Or.inl (hw _ (List.mem_of_getElem? (i := 25) rfl))) (Or.inl (hw _ (List.mem_of_getElem? (i := 21) rfl))) (by decide) (t := .double) (by decide) (t' := .double) (by decide)))
  have F3_stretchStart : Fld Z h3 a "com/example/herring/herring/sim/FlowCapacity" "stretchStart" "D" (.double c2) := F.2.2.1.other W3 (Or.inr (slot_ne (Or.inl (hw _ (List.mem_of_getElem? (i := 41) rfl))) (Or.inl (hw _ (List.mem_of_getElem? (i := 21) rfl))) (by decide) (t := .double) (by decide) (t' := .double) (by decide)))
  have F3_turnsInStretch : Fld Z h3 a "com/example/herring/herring/sim/FlowCapacity" "turnsInStretch" "D" (.double x2) := F.2.2.2.1.same W3
  have F3_lastShare : Fld Z h3 a "com/example/herring/herring/sim/FlowCapacity" "lastShare" "D" (.double c4) := F.2.2.2.2.other W3 (Or.inr (slot_ne (Or.inl (hw _ (List.mem_of_getElem? (i := 23) rfl))) (Or.inl (hw _ (List.mem_of_getElem? (i := 21) rfl))) (by decide) (t := .double) (by decide) (t' := .double) (by decide)))
  obtain ⟨T4, h4, X4, e4, W4, st4⟩ := putF X3 hx hZ hown (host := "") (Or.inl (hw _ (List.mem_of_getElem? (i := 22) rfl))) Via.refl e3 F3_lastShare E3 (Or.inl (hw _ (List.mem_of_getElem? (i := 23) rfl))) (hw _ (List.mem_of_getElem? (i := 2) rfl)) (ty := .double) (by decide) rfl rfl (g := (mkF m 33 #[.val (.ref a), .val (.int now), .val (.double x), .second] [(.double x), (.ref a)])) rfl rfl (hb hby d5_33)
  have N4 := Fr.snoc X4 N3 ga
  have K4 : Keep h0 h4 [a] := K3.wr W4 (Or.inl (List.mem_of_getElem? (i := 0) rfl))
  have E4 : Exa Z h4 a "com/example/herring/herring/sim/FlowCapacity" := E3.wr W4
  have F4_carsPerSecond : Fld Z h4 a "com/example/herring/herring/sim/FlowCapacity" "carsPerSecond" "D" (.double c1) := F3_carsPerSecond.other W4 (Or.inr (slot_ne (Or.inl (hw _ (List.mem_of_getElem? (i := 25) rfl))) (Or.inl (hw _ (List.mem_of_getElem? (i := 23) rfl))) (by decide) (t := .double) (by decide) (t' := .double) (by decide)))
  have F4_stretchStart : Fld Z h4 a "com/example/herring/herring/sim/FlowCapacity" "stretchStart" "D" (.double c2) := F3_stretchStart.other W4 (Or.inr (slot_ne (Or.inl (hw _ (List.mem_of_getElem? (i := 41) rfl))) (Or.inl (hw _ (List.mem_of_getElem? (i := 23) rfl))) (by decide) (t := .double) (by decide) (t' := .double) (by decide)))
  have F4_turnsInStretch : Fld Z h4 a "com/example/herring/herring/sim/FlowCapacity" "turnsInStretch" "D" (.double x2) := F3_turnsInStretch.other W4 (Or.inr (slot_ne (Or.inl (hw _ (List.mem_of_getElem? (i := 21) rfl))) (Or.inl (hw _ (List.mem_of_getElem? (i := 23) rfl))) (by decide) (t := .double) (by decide) (t' := .double) (by decide)))
  have F4_lastShare : Fld Z h4 a "com/example/herring/herring/sim/FlowCapacity" "lastShare" "D" (.double x) := F3_lastShare.same W4
  obtain ⟨fs, hr, hrun, hended, hW, hsame⟩ := X4.leave (v := none) (fun _ => rfl)
  refine ⟨_, _, pre0 _ ?_, hrun, hended, _, _, rfl, ?_, ⟨_, rfl⟩, hW, hsame.mono (by decide) (by decide)⟩
  · show Steps p.tables e below (s₁.setTop (mkF m 0 #[.val (.ref a), .val (.int now), .val (.double x), .second] [])) _
    refine XS.iloadN X0.here hx rfl (hb hby d5_0) rfl ?_
    show Steps p.tables e below (s₁.setTop (mkF m 1 #[.val (.ref a), .val (.int now), .val (.double x), .second] [(.int now)])) _
    refine XT.i2l X0.here hx rfl (hb hby d5_1) rfl ?_
    show Steps p.tables e below (s₁.setTop (mkF m 2 #[.val (.ref a), .val (.int now), .val (.double x), .second] [(.long now.toInt64)])) _
    refine XS.aloadN X0.here hx rfl (hb hby d5_2) rfl rfl ?_
    show Steps p.tables e below (s₁.setTop (mkF m 3 #[.val (.ref a), .val (.int now), .val (.double x), .second] [(.ref a), (.long now.toInt64)])) _
    refine st1.trans ?_
    show Steps p.tables e below (T1.setTop (mkF m 6 #[.val (.ref a), .val (.int now), .val (.double x), .second] [(.long ((Int32.ofNat (n / 128)).toInt64)), (.long now.toInt64)])) _
    refine XT.lcmp X1.here hx rfl (hb hby d5_6) rfl ?_
    show Steps p.tables e below (T1.setTop (mkF m 7 #[.val (.ref a), .val (.int now), .val (.double x), .second] [(.int (XT.cmpL now.toInt64 ((Int32.ofNat (n / 128)).toInt64)))])) _
    refine XS.ifYes X1.here hx rfl rfl (hb hby d5_7) rfl (XT.ll_le_t hlt) (show (0 : Int) ≤ ((7 : Nat) : Int) + (14) by decide) (show (((7 : Nat) : Int) + (14)).toNat = 21 by decide) ?_
    show Steps p.tables e below (T1.setTop (mkF m 21 #[.val (.ref a), .val (.int now), .val (.double x), .second] [])) _
    refine XS.aloadN X1.here hx rfl (hb hby d5_21) rfl rfl ?_
    show Steps p.tables e below (T1.setTop (mkF m 22 #[.val (.ref a), .val (.int now), .val (.double x), .second] [(.ref a)])) _
    refine XS.dup X1.here hx rfl (hb hby d5_22) rfl rfl ?_
    show Steps p.tables e below (T1.setTop (mkF m 23 #[.val (.ref a), .val (.int now), .val (.double x), .second] [(.ref a), (.ref a)])) _
    refine st2 _ ?_
    show Steps p.tables e below (T2.setTop (mkF m 26 #[.val (.ref a), .val (.int now), .val (.double x), .second] [(.double c3), (.ref a)])) _
    refine XS.dloadN X2.here hx rfl (hb hby d5_26) rfl ?_
    show Steps p.tables e below (T2.setTop (mkF m 27 #[.val (.ref a), .val (.int now), .val (.double x), .second] [(.double x), (.double c3), (.ref a)])) _
    refine XS.daddS X2.here hx rfl (hb hby d5_27) rfl (by rw [hx2]; exact hx2n) hx2 ?_
    show Steps p.tables e below (T2.setTop (mkF m 28 #[.val (.ref a), .val (.int now), .val (.double x), .second] [(.double x2), (.ref a)])) _
    refine st3 _ ?_
    show Steps p.tables e below (T3.setTop (mkF m 31 #[.val (.ref a), .val (.int now), .val (.double x), .second] [])) _
    refine XS.aloadN X3.here hx rfl (hb hby d5_31) rfl rfl ?_
    show Steps p.tables e below (T3.setTop (mkF m 32 #[.val (.ref a), .val (.int now), .val (.double x), .second] [(.ref a)])) _
    refine XS.dloadN X3.here hx rfl (hb hby d5_32) rfl ?_
    show Steps p.tables e below (T3.setTop (mkF m 33 #[.val (.ref a), .val (.int now), .val (.double x), .second] [(.double x), (.ref a)])) _
    refine st4 _ ?_
    show Steps p.tables e below (T4.setTop (mkF m 36 #[.val (.ref a), .val (.int now), .val (.double x), .second] [])) _
    exact X4.returnOut hx Bd.returns (hb hby d5_36) hr
  · show own_QF Z a c1 c2 x2 x h0 n0 _ T4.heap _
    rw [e4]; exact ⟨rfl, N4, K4, E4, F4_carsPerSecond, F4_stretchStart, F4_turnsInStretch, F4_lastShare⟩
theorem own_rateA (l : Launch) (Z : State) (a0 : Array Value) (hw : ∀ d ∈ tables_1, d.before a0 Z = true) (ws : List Jvm.Cond) (x : Int32) (q : UInt64) (H : (x = 7 ∧ q = 0) ∨ (¬ x = 7 ∧ FP.dmul (FP.i2d ((1 : Int32) <<< (x &&& 31))) 4598175219545276416 = q ∧ NoNaN64 q)) (h0 : Heap) (n0 : Nat) (Z0 : n0 ≤ h0.size) :
    MetFree l (⟨"com/example/herring/herring/sim/FlowCapacitySetCarsPerSecondPinLaw", "rate", "(I)D"⟩ : MethodName) (head1 (Jvm.Cond.code (⟨"com/example/herring/herring/sim/FlowCapacitySetCarsPerSecondPinLaw", "rate", "(I)D"⟩ : MethodName) method_2_code 1 (some .double) :: ws) ({ frames := 0, cells := 0, slots := 0, locals := 0 } : Room)) (fun av U => av = #[(.int x)] ∧ Z.Warmed39 U.vm ∧ U.heap = h0) (fun _ _ _ _ _ => True) (fun _ U o U' => ∃ v L, o = .returned v ∧ own_QV (.double q) h0 n0 v U'.heap L ∧ FrameEnd U o U' L ({ frames := 0, cells := 0, slots := 0, locals := 0 } : Room).cells ({ frames := 0, cells := 0, slots := 0, locals := 0 } : Room).slots) := by
  rcases H with ⟨h1, rfl⟩ | ⟨h1, h2, h3⟩
  · exact own_rate7 l Z a0 hw ws x h1 h0 n0 Z0
  · exact own_rate l Z a0 hw ws x q h1 h2 h3 h0 n0 Z0
theorem own_setA (l : Launch) (Z : State) (a0 : Array Value) (hw : ∀ d ∈ tables_1, d.before a0 Z = true) (ws : List Jvm.Cond) (a : Addr) (x c1 c2 c3 c4 r : UInt64) (H : (c3 = c4 ∧ r = c2 ∧ cmpValue (FP.dcmp c3 c4) .l = 0) ∨ ∃ d q, cmpValue (FP.dcmp c3 c4) .l = 1 ∧ FP.dsub c3 c4 = d ∧ NoNaN64 d ∧ FP.ddiv d c1 = q ∧ NoNaN64 q ∧ FP.dadd c2 q = r ∧ NoNaN64 r) (h0 : Heap) (n0 : Nat) (Z0 : n0 ≤ h0.size) (F : own_FC Z h0 a c1 c2 c3 c4) (ga : n0 ≤ a) :
    MetFree l (⟨"com/example/herring/herring/sim/FlowCapacity", "setCarsPerSecond", "(D)V"⟩ : MethodName) (head1 (Jvm.Cond.code (⟨"com/example/herring/herring/sim/FlowCapacity", "setCarsPerSecond", "(D)V"⟩ : MethodName) prog_60_method_2_code 3 none :: ws) ({ frames := 1, cells := 0, slots := 0, locals := 15 } : Room)) (fun a' U => a' = #[(.ref a), (.double x)] ∧ Z.Warmed39 U.vm ∧ U.heap = h0) (fun _ _ _ _ _ => True) (fun _ U o U' => ∃ v L, o = .returned v ∧ own_QF Z a x r c4 c4 h0 n0 v U'.heap L ∧ FrameEnd U o U' L ({ frames := 1, cells := 0, slots := 0, locals := 15 } : Room).cells ({ frames := 1, cells := 0, slots := 0, locals := 15 } : Room).slots) := by
  rcases H with ⟨rfl, rfl, h3⟩ | ⟨d, q, h1, h2, h3, h4, h5, h6, h7⟩
  · exact own_setN l Z a0 hw ws a x c1 r c3 c3 h3 h0 n0 Z0 F ga
  · exact own_setY l Z a0 hw ws a x c1 c2 c3 c4 d q r h1 h2 h3 h4 h5 h6 h7 h0 n0 Z0 F ga
theorem own_countA (l : Launch) (Z : State) (a0 : Array Value) (hw : ∀ d ∈ tables_1, d.before a0 Z = true) (ws : List Jvm.Cond) (a : Addr) (now : Int32) (x c1 c2 c3 c4 q : UInt64) (n : Nat) (hn38 : n + 1 < 2 ^ 37 + 2 ^ 20) (hn126 : n % 128 ≤ 126) (hc1 : cmpValue (FP.dcmp c1 0) .l = 1) (hq : FP.ddiv c3 c1 = q) (hqn : NoNaN64 q) (hr' : FP.dadd c2 q = own_enc n) (st x2 : UInt64) (hx2n : NoNaN64 x2) (H : ((Int32.ofNat (n / 128)).toInt64 < now.toInt64 ∧ st = FP.i2d now ∧ FP.dadd 0 x = x2) ∨ (¬ (Int32.ofNat (n / 128)).toInt64 < now.toInt64 ∧ st = c2 ∧ FP.dadd c3 x = x2)) (h0 : Heap) (n0 : Nat) (Z0 : n0 ≤ h0.size) (F : own_FC Z h0 a c1 c2 c3 c4) (ga : n0 ≤ a) (S : Sta Z h0 "java/lang/StrictMath" "$assertionsDisabled" "Z" (.int 1)) :
    MetFree l (⟨"com/example/herring/herring/sim/FlowCapacity", "count", "(ID)V"⟩ : MethodName) (head1 (Jvm.Cond.code (⟨"com/example/herring/herring/sim/FlowCapacity", "count", "(ID)V"⟩ : MethodName) prog_60_method_4_code 4 none :: ws) ({ frames := 8, cells := 0, slots := 0, locals := 182 } : Room)) (fun a' U => a' = #[(.ref a), (.int now), (.double x)] ∧ Z.Warmed39 U.vm ∧ U.heap = h0) (fun _ _ _ _ _ => True) (fun _ U o U' => ∃ v L, o = .returned v ∧ own_QF Z a c1 st x2 x h0 n0 v U'.heap L ∧ FrameEnd U o U' L ({ frames := 8, cells := 0, slots := 0, locals := 182 } : Room).cells ({ frames := 8, cells := 0, slots := 0, locals := 182 } : Room).slots) := by
  rcases H with ⟨h1, rfl, h3⟩ | ⟨h1, rfl, h3⟩
  · exact own_countY l Z a0 hw ws a now x c1 c2 c3 c4 q n hn38 hn126 hc1 hq hqn hr' x2 h1 h3 hx2n h0 n0 Z0 F ga S
  · exact own_countN l Z a0 hw ws a now x c1 st c3 c4 q n hn38 hn126 hc1 hq hqn hr' x2 h1 h3 hx2n h0 n0 Z0 F ga S
end OwnBody
/-! ## The law's own walk, in pieces (printed by gen460_law.py) -/
section OwnLaw
open Jvm.Free.Hsc Jvm.Free.Fl Jvm.FP Jvm.Native.java_lang_Math.nans
variable {p : Program} {l : Launch} {e : Env} {s : State} {m : MethodId} {args : Array Value} {below : List Frame} {meth : Method} {c : Code} {T : State} {locs : List Loc} {Z : State} {a0 : Array Value} {h : Heap} {n0 : Nat}
set_option maxRecDepth 65536 in
set_option maxHeartbeats 40000000 in
theorem own_s0a {cells slots : Nat} (X : Stand p l e room_1 s m args below meth c T locs cells slots) (hx : p.tables.exec = Jvm.exec) (hZ : Z.Warmed39 s.vm) (hw : ∀ d ∈ tables_1, d.before a0 Z = true) (hby : c.code = code) (hown : s.vm.findClass "com/example/herring/herring/sim/FlowCapacitySetCarsPerSecondPinLaw" = some m.cls) {v0 v1 v2 v3 : Int32} (h7 : v1 &&& 7 = 7) {target : State}
    (k' : Steps p.tables e below (T.setTop (mkF m 68 #[.val (.int v0), .val (.int v1), .val (.int v2), .val (.int v3), .val (.int (v0 &&& 1073741823)), .val (.int (v1 &&& 7)), .val (.int ((XT.ushr v1 3) &&& 7)), .val (.int 0), .val (.int ((XT.ushr v3 2) &&& 3)), .val (.int (1 + (v2 &&& 3))), .val (.int (1 + ((XT.ushr v2 2) &&& 3))), .val (.int (1 + ((XT.ushr v2 4) &&& 3))), .unset, .unset, .unset, .unset, .unset, .unset, .unset, .unset] [])) target) : Steps p.tables e below (T.setTop (mkF m 0 #[.val (.int v0), .val (.int v1), .val (.int v2), .val (.int v3), .unset, .unset, .unset, .unset, .unset, .unset, .unset, .unset, .unset, .unset, .unset, .unset, .unset, .unset, .unset, .unset] [])) target := by
  show Steps p.tables e below (T.setTop (mkF m 0 #[.val (.int v0), .val (.int v1), .val (.int v2), .val (.int v3), .unset, .unset, .unset, .unset, .unset, .unset, .unset, .unset, .unset, .unset, .unset, .unset, .unset, .unset, .unset, .unset] [])) _
  refine XS.iloadN X.here hx rfl (hb hby at_0) rfl ?_
  show Steps p.tables e below (T.setTop (mkF m 1 #[.val (.int v0), .val (.int v1), .val (.int v2), .val (.int v3), .unset, .unset, .unset, .unset, .unset, .unset, .unset, .unset, .unset, .unset, .unset, .unset, .unset, .unset, .unset, .unset] [(.int v0)])) _
  refine X.ldcI hx hown (mvT hZ (hw _ (List.mem_of_getElem? (i := 0) rfl))) rfl (hb hby at_1) ?_
  show Steps p.tables e below (T.setTop (mkF m 3 #[.val (.int v0), .val (.int v1), .val (.int v2), .val (.int v3), .unset, .unset, .unset, .unset, .unset, .unset, .unset, .unset, .unset, .unset, .unset, .unset, .unset, .unset, .unset, .unset] [(.int 1073741823), (.int v0)])) _
  refine XS.iand X.here hx rfl (hb hby at_3) rfl ?_
  show Steps p.tables e below (T.setTop (mkF m 4 #[.val (.int v0), .val (.int v1), .val (.int v2), .val (.int v3), .unset, .unset, .unset, .unset, .unset, .unset, .unset, .unset, .unset, .unset, .unset, .unset, .unset, .unset, .unset, .unset] [(.int (v0 &&& 1073741823))])) _
  refine XS.istore X.here hx rfl (hb hby at_4) rfl rfl ?_
  show Steps p.tables e below (T.setTop (mkF m 6 #[.val (.int v0), .val (.int v1), .val (.int v2), .val (.int v3), .val (.int (v0 &&& 1073741823)), .unset, .unset, .unset, .unset, .unset, .unset, .unset, .unset, .unset, .unset, .unset, .unset, .unset, .unset, .unset] [])) _
  refine XS.iloadN X.here hx rfl (hb hby at_6) rfl ?_
  show Steps p.tables e below (T.setTop (mkF m 7 #[.val (.int v0), .val (.int v1), .val (.int v2), .val (.int v3), .val (.int (v0 &&& 1073741823)), .unset, .unset, .unset, .unset, .unset, .unset, .unset, .unset, .unset, .unset, .unset, .unset, .unset, .unset, .unset] [(.int v1)])) _
  refine XT.bipushV X.here hx rfl 7 (hb hby at_7) (by decide) ?_
  show Steps p.tables e below (T.setTop (mkF m 9 #[.val (.int v0), .val (.int v1), .val (.int v2), .val (.int v3), .val (.int (v0 &&& 1073741823)), .unset, .unset, .unset, .unset, .unset, .unset, .unset, .unset, .unset, .unset, .unset, .unset, .unset, .unset, .unset] [(.int 7), (.int v1)])) _
  refine XS.iand X.here hx rfl (hb hby at_9) rfl ?_
  show Steps p.tables e below (T.setTop (mkF m 10 #[.val (.int v0), .val (.int v1), .val (.int v2), .val (.int v3), .val (.int (v0 &&& 1073741823)), .unset, .unset, .unset, .unset, .unset, .unset, .unset, .unset, .unset, .unset, .unset, .unset, .unset, .unset, .unset] [(.int (v1 &&& 7))])) _
  refine XS.istore X.here hx rfl (hb hby at_10) rfl rfl ?_
  show Steps p.tables e below (T.setTop (mkF m 12 #[.val (.int v0), .val (.int v1), .val (.int v2), .val (.int v3), .val (.int (v0 &&& 1073741823)), .val (.int (v1 &&& 7)), .unset, .unset, .unset, .unset, .unset, .unset, .unset, .unset, .unset, .unset, .unset, .unset, .unset, .unset] [])) _
  refine XS.iloadN X.here hx rfl (hb hby at_12) rfl ?_
  show Steps p.tables e below (T.setTop (mkF m 13 #[.val (.int v0), .val (.int v1), .val (.int v2), .val (.int v3), .val (.int (v0 &&& 1073741823)), .val (.int (v1 &&& 7)), .unset, .unset, .unset, .unset, .unset, .unset, .unset, .unset, .unset, .unset, .unset, .unset, .unset, .unset] [(.int v1)])) _
  refine XT.iconstV X.here hx rfl 3 (hb hby at_13) rfl ?_
  show Steps p.tables e below (T.setTop (mkF m 14 #[.val (.int v0), .val (.int v1), .val (.int v2), .val (.int v3), .val (.int (v0 &&& 1073741823)), .val (.int (v1 &&& 7)), .unset, .unset, .unset, .unset, .unset, .unset, .unset, .unset, .unset, .unset, .unset, .unset, .unset, .unset] [(.int 3), (.int v1)])) _
  refine XT.iushr X.here hx rfl (hb hby at_14) rfl ?_
  show Steps p.tables e below (T.setTop (mkF m 15 #[.val (.int v0), .val (.int v1), .val (.int v2), .val (.int v3), .val (.int (v0 &&& 1073741823)), .val (.int (v1 &&& 7)), .unset, .unset, .unset, .unset, .unset, .unset, .unset, .unset, .unset, .unset, .unset, .unset, .unset, .unset] [(.int (XT.ushr v1 3))])) _
  refine XT.bipushV X.here hx rfl 7 (hb hby at_15) (by decide) ?_
  show Steps p.tables e below (T.setTop (mkF m 17 #[.val (.int v0), .val (.int v1), .val (.int v2), .val (.int v3), .val (.int (v0 &&& 1073741823)), .val (.int (v1 &&& 7)), .unset, .unset, .unset, .unset, .unset, .unset, .unset, .unset, .unset, .unset, .unset, .unset, .unset, .unset] [(.int 7), (.int (XT.ushr v1 3))])) _
  refine XS.iand X.here hx rfl (hb hby at_17) rfl ?_
  show Steps p.tables e below (T.setTop (mkF m 18 #[.val (.int v0), .val (.int v1), .val (.int v2), .val (.int v3), .val (.int (v0 &&& 1073741823)), .val (.int (v1 &&& 7)), .unset, .unset, .unset, .unset, .unset, .unset, .unset, .unset, .unset, .unset, .unset, .unset, .unset, .unset] [(.int ((XT.ushr v1 3) &&& 7))])) _
  refine XS.istore X.here hx rfl (hb hby at_18) rfl rfl ?_
  show Steps p.tables e below (T.setTop (mkF m 20 #[.val (.int v0), .val (.int v1), .val (.int v2), .val (.int v3), .val (.int (v0 &&& 1073741823)), .val (.int (v1 &&& 7)), .val (.int ((XT.ushr v1 3) &&& 7)), .unset, .unset, .unset, .unset, .unset, .unset, .unset, .unset, .unset, .unset, .unset, .unset, .unset] [])) _
  refine XS.iload X.here hx rfl (hb hby at_20) rfl ?_
  show Steps p.tables e below (T.setTop (mkF m 22 #[.val (.int v0), .val (.int v1), .val (.int v2), .val (.int v3), .val (.int (v0 &&& 1073741823)), .val (.int (v1 &&& 7)), .val (.int ((XT.ushr v1 3) &&& 7)), .unset, .unset, .unset, .unset, .unset, .unset, .unset, .unset, .unset, .unset, .unset, .unset, .unset] [(.int (v1 &&& 7))])) _
  refine XT.bipushV X.here hx rfl 7 (hb hby at_22) (by decide) ?_
  show Steps p.tables e below (T.setTop (mkF m 24 #[.val (.int v0), .val (.int v1), .val (.int v2), .val (.int v3), .val (.int (v0 &&& 1073741823)), .val (.int (v1 &&& 7)), .val (.int ((XT.ushr v1 3) &&& 7)), .unset, .unset, .unset, .unset, .unset, .unset, .unset, .unset, .unset, .unset, .unset, .unset, .unset] [(.int 7), (.int (v1 &&& 7))])) _
  refine XS.icmpNo X.here hx rfl (hb hby at_24) rfl (XT.ii_ne_f h7) ?_
  show Steps p.tables e below (T.setTop (mkF m 27 #[.val (.int v0), .val (.int v1), .val (.int v2), .val (.int v3), .val (.int (v0 &&& 1073741823)), .val (.int (v1 &&& 7)), .val (.int ((XT.ushr v1 3) &&& 7)), .unset, .unset, .unset, .unset, .unset, .unset, .unset, .unset, .unset, .unset, .unset, .unset, .unset] [])) _
  refine XT.iconstV X.here hx rfl 0 (hb hby at_27) rfl ?_
  show Steps p.tables e below (T.setTop (mkF m 28 #[.val (.int v0), .val (.int v1), .val (.int v2), .val (.int v3), .val (.int (v0 &&& 1073741823)), .val (.int (v1 &&& 7)), .val (.int ((XT.ushr v1 3) &&& 7)), .unset, .unset, .unset, .unset, .unset, .unset, .unset, .unset, .unset, .unset, .unset, .unset, .unset] [(.int 0)])) _
  refine XS.goto X.here hx rfl rfl (hb hby at_28) (show (0 : Int) ≤ ((28 : Nat) : Int) + (6) by decide) (show (((28 : Nat) : Int) + (6)).toNat = 34 by decide) ?_
  show Steps p.tables e below (T.setTop (mkF m 34 #[.val (.int v0), .val (.int v1), .val (.int v2), .val (.int v3), .val (.int (v0 &&& 1073741823)), .val (.int (v1 &&& 7)), .val (.int ((XT.ushr v1 3) &&& 7)), .unset, .unset, .unset, .unset, .unset, .unset, .unset, .unset, .unset, .unset, .unset, .unset, .unset] [(.int 0)])) _
  refine XS.istore X.here hx rfl (hb hby at_34) rfl rfl ?_
  show Steps p.tables e below (T.setTop (mkF m 36 #[.val (.int v0), .val (.int v1), .val (.int v2), .val (.int v3), .val (.int (v0 &&& 1073741823)), .val (.int (v1 &&& 7)), .val (.int ((XT.ushr v1 3) &&& 7)), .val (.int 0), .unset, .unset, .unset, .unset, .unset, .unset, .unset, .unset, .unset, .unset, .unset, .unset] [])) _
  refine XS.iloadN X.here hx rfl (hb hby at_36) rfl ?_
  show Steps p.tables e below (T.setTop (mkF m 37 #[.val (.int v0), .val (.int v1), .val (.int v2), .val (.int v3), .val (.int (v0 &&& 1073741823)), .val (.int (v1 &&& 7)), .val (.int ((XT.ushr v1 3) &&& 7)), .val (.int 0), .unset, .unset, .unset, .unset, .unset, .unset, .unset, .unset, .unset, .unset, .unset, .unset] [(.int v3)])) _
  refine XT.iconstV X.here hx rfl 2 (hb hby at_37) rfl ?_
  show Steps p.tables e below (T.setTop (mkF m 38 #[.val (.int v0), .val (.int v1), .val (.int v2), .val (.int v3), .val (.int (v0 &&& 1073741823)), .val (.int (v1 &&& 7)), .val (.int ((XT.ushr v1 3) &&& 7)), .val (.int 0), .unset, .unset, .unset, .unset, .unset, .unset, .unset, .unset, .unset, .unset, .unset, .unset] [(.int 2), (.int v3)])) _
  refine XT.iushr X.here hx rfl (hb hby at_38) rfl ?_
  show Steps p.tables e below (T.setTop (mkF m 39 #[.val (.int v0), .val (.int v1), .val (.int v2), .val (.int v3), .val (.int (v0 &&& 1073741823)), .val (.int (v1 &&& 7)), .val (.int ((XT.ushr v1 3) &&& 7)), .val (.int 0), .unset, .unset, .unset, .unset, .unset, .unset, .unset, .unset, .unset, .unset, .unset, .unset] [(.int (XT.ushr v3 2))])) _
  refine XT.iconstV X.here hx rfl 3 (hb hby at_39) rfl ?_
  show Steps p.tables e below (T.setTop (mkF m 40 #[.val (.int v0), .val (.int v1), .val (.int v2), .val (.int v3), .val (.int (v0 &&& 1073741823)), .val (.int (v1 &&& 7)), .val (.int ((XT.ushr v1 3) &&& 7)), .val (.int 0), .unset, .unset, .unset, .unset, .unset, .unset, .unset, .unset, .unset, .unset, .unset, .unset] [(.int 3), (.int (XT.ushr v3 2))])) _
  refine XS.iand X.here hx rfl (hb hby at_40) rfl ?_
  show Steps p.tables e below (T.setTop (mkF m 41 #[.val (.int v0), .val (.int v1), .val (.int v2), .val (.int v3), .val (.int (v0 &&& 1073741823)), .val (.int (v1 &&& 7)), .val (.int ((XT.ushr v1 3) &&& 7)), .val (.int 0), .unset, .unset, .unset, .unset, .unset, .unset, .unset, .unset, .unset, .unset, .unset, .unset] [(.int ((XT.ushr v3 2) &&& 3))])) _
  refine XS.istore X.here hx rfl (hb hby at_41) rfl rfl ?_
  show Steps p.tables e below (T.setTop (mkF m 43 #[.val (.int v0), .val (.int v1), .val (.int v2), .val (.int v3), .val (.int (v0 &&& 1073741823)), .val (.int (v1 &&& 7)), .val (.int ((XT.ushr v1 3) &&& 7)), .val (.int 0), .val (.int ((XT.ushr v3 2) &&& 3)), .unset, .unset, .unset, .unset, .unset, .unset, .unset, .unset, .unset, .unset, .unset] [])) _
  refine XT.iconstV X.here hx rfl 1 (hb hby at_43) rfl ?_
  show Steps p.tables e below (T.setTop (mkF m 44 #[.val (.int v0), .val (.int v1), .val (.int v2), .val (.int v3), .val (.int (v0 &&& 1073741823)), .val (.int (v1 &&& 7)), .val (.int ((XT.ushr v1 3) &&& 7)), .val (.int 0), .val (.int ((XT.ushr v3 2) &&& 3)), .unset, .unset, .unset, .unset, .unset, .unset, .unset, .unset, .unset, .unset, .unset] [(.int 1)])) _
  refine XS.iloadN X.here hx rfl (hb hby at_44) rfl ?_
  show Steps p.tables e below (T.setTop (mkF m 45 #[.val (.int v0), .val (.int v1), .val (.int v2), .val (.int v3), .val (.int (v0 &&& 1073741823)), .val (.int (v1 &&& 7)), .val (.int ((XT.ushr v1 3) &&& 7)), .val (.int 0), .val (.int ((XT.ushr v3 2) &&& 3)), .unset, .unset, .unset, .unset, .unset, .unset, .unset, .unset, .unset, .unset, .unset] [(.int v2), (.int 1)])) _
  refine XT.iconstV X.here hx rfl 3 (hb hby at_45) rfl ?_
  show Steps p.tables e below (T.setTop (mkF m 46 #[.val (.int v0), .val (.int v1), .val (.int v2), .val (.int v3), .val (.int (v0 &&& 1073741823)), .val (.int (v1 &&& 7)), .val (.int ((XT.ushr v1 3) &&& 7)), .val (.int 0), .val (.int ((XT.ushr v3 2) &&& 3)), .unset, .unset, .unset, .unset, .unset, .unset, .unset, .unset, .unset, .unset, .unset] [(.int 3), (.int v2), (.int 1)])) _
  refine XS.iand X.here hx rfl (hb hby at_46) rfl ?_
  show Steps p.tables e below (T.setTop (mkF m 47 #[.val (.int v0), .val (.int v1), .val (.int v2), .val (.int v3), .val (.int (v0 &&& 1073741823)), .val (.int (v1 &&& 7)), .val (.int ((XT.ushr v1 3) &&& 7)), .val (.int 0), .val (.int ((XT.ushr v3 2) &&& 3)), .unset, .unset, .unset, .unset, .unset, .unset, .unset, .unset, .unset, .unset, .unset] [(.int (v2 &&& 3)), (.int 1)])) _
  refine XS.iadd X.here hx rfl (hb hby at_47) rfl ?_
  show Steps p.tables e below (T.setTop (mkF m 48 #[.val (.int v0), .val (.int v1), .val (.int v2), .val (.int v3), .val (.int (v0 &&& 1073741823)), .val (.int (v1 &&& 7)), .val (.int ((XT.ushr v1 3) &&& 7)), .val (.int 0), .val (.int ((XT.ushr v3 2) &&& 3)), .unset, .unset, .unset, .unset, .unset, .unset, .unset, .unset, .unset, .unset, .unset] [(.int (1 + (v2 &&& 3)))])) _
  refine XS.istore X.here hx rfl (hb hby at_48) rfl rfl ?_
  show Steps p.tables e below (T.setTop (mkF m 50 #[.val (.int v0), .val (.int v1), .val (.int v2), .val (.int v3), .val (.int (v0 &&& 1073741823)), .val (.int (v1 &&& 7)), .val (.int ((XT.ushr v1 3) &&& 7)), .val (.int 0), .val (.int ((XT.ushr v3 2) &&& 3)), .val (.int (1 + (v2 &&& 3))), .unset, .unset, .unset, .unset, .unset, .unset, .unset, .unset, .unset, .unset] [])) _
  refine XT.iconstV X.here hx rfl 1 (hb hby at_50) rfl ?_
  show Steps p.tables e below (T.setTop (mkF m 51 #[.val (.int v0), .val (.int v1), .val (.int v2), .val (.int v3), .val (.int (v0 &&& 1073741823)), .val (.int (v1 &&& 7)), .val (.int ((XT.ushr v1 3) &&& 7)), .val (.int 0), .val (.int ((XT.ushr v3 2) &&& 3)), .val (.int (1 + (v2 &&& 3))), .unset, .unset, .unset, .unset, .unset, .unset, .unset, .unset, .unset, .unset] [(.int 1)])) _
  refine XS.iloadN X.here hx rfl (hb hby at_51) rfl ?_
  show Steps p.tables e below (T.setTop (mkF m 52 #[.val (.int v0), .val (.int v1), .val (.int v2), .val (.int v3), .val (.int (v0 &&& 1073741823)), .val (.int (v1 &&& 7)), .val (.int ((XT.ushr v1 3) &&& 7)), .val (.int 0), .val (.int ((XT.ushr v3 2) &&& 3)), .val (.int (1 + (v2 &&& 3))), .unset, .unset, .unset, .unset, .unset, .unset, .unset, .unset, .unset, .unset] [(.int v2), (.int 1)])) _
  refine XT.iconstV X.here hx rfl 2 (hb hby at_52) rfl ?_
  show Steps p.tables e below (T.setTop (mkF m 53 #[.val (.int v0), .val (.int v1), .val (.int v2), .val (.int v3), .val (.int (v0 &&& 1073741823)), .val (.int (v1 &&& 7)), .val (.int ((XT.ushr v1 3) &&& 7)), .val (.int 0), .val (.int ((XT.ushr v3 2) &&& 3)), .val (.int (1 + (v2 &&& 3))), .unset, .unset, .unset, .unset, .unset, .unset, .unset, .unset, .unset, .unset] [(.int 2), (.int v2), (.int 1)])) _
  refine XT.iushr X.here hx rfl (hb hby at_53) rfl ?_
  show Steps p.tables e below (T.setTop (mkF m 54 #[.val (.int v0), .val (.int v1), .val (.int v2), .val (.int v3), .val (.int (v0 &&& 1073741823)), .val (.int (v1 &&& 7)), .val (.int ((XT.ushr v1 3) &&& 7)), .val (.int 0), .val (.int ((XT.ushr v3 2) &&& 3)), .val (.int (1 + (v2 &&& 3))), .unset, .unset, .unset, .unset, .unset, .unset, .unset, .unset, .unset, .unset] [(.int (XT.ushr v2 2)), (.int 1)])) _
  refine XT.iconstV X.here hx rfl 3 (hb hby at_54) rfl ?_
  show Steps p.tables e below (T.setTop (mkF m 55 #[.val (.int v0), .val (.int v1), .val (.int v2), .val (.int v3), .val (.int (v0 &&& 1073741823)), .val (.int (v1 &&& 7)), .val (.int ((XT.ushr v1 3) &&& 7)), .val (.int 0), .val (.int ((XT.ushr v3 2) &&& 3)), .val (.int (1 + (v2 &&& 3))), .unset, .unset, .unset, .unset, .unset, .unset, .unset, .unset, .unset, .unset] [(.int 3), (.int (XT.ushr v2 2)), (.int 1)])) _
  refine XS.iand X.here hx rfl (hb hby at_55) rfl ?_
  show Steps p.tables e below (T.setTop (mkF m 56 #[.val (.int v0), .val (.int v1), .val (.int v2), .val (.int v3), .val (.int (v0 &&& 1073741823)), .val (.int (v1 &&& 7)), .val (.int ((XT.ushr v1 3) &&& 7)), .val (.int 0), .val (.int ((XT.ushr v3 2) &&& 3)), .val (.int (1 + (v2 &&& 3))), .unset, .unset, .unset, .unset, .unset, .unset, .unset, .unset, .unset, .unset] [(.int ((XT.ushr v2 2) &&& 3)), (.int 1)])) _
  refine XS.iadd X.here hx rfl (hb hby at_56) rfl ?_
  show Steps p.tables e below (T.setTop (mkF m 57 #[.val (.int v0), .val (.int v1), .val (.int v2), .val (.int v3), .val (.int (v0 &&& 1073741823)), .val (.int (v1 &&& 7)), .val (.int ((XT.ushr v1 3) &&& 7)), .val (.int 0), .val (.int ((XT.ushr v3 2) &&& 3)), .val (.int (1 + (v2 &&& 3))), .unset, .unset, .unset, .unset, .unset, .unset, .unset, .unset, .unset, .unset] [(.int (1 + ((XT.ushr v2 2) &&& 3)))])) _
  refine XS.istore X.here hx rfl (hb hby at_57) rfl rfl ?_
  show Steps p.tables e below (T.setTop (mkF m 59 #[.val (.int v0), .val (.int v1), .val (.int v2), .val (.int v3), .val (.int (v0 &&& 1073741823)), .val (.int (v1 &&& 7)), .val (.int ((XT.ushr v1 3) &&& 7)), .val (.int 0), .val (.int ((XT.ushr v3 2) &&& 3)), .val (.int (1 + (v2 &&& 3))), .val (.int (1 + ((XT.ushr v2 2) &&& 3))), .unset, .unset, .unset, .unset, .unset, .unset, .unset, .unset, .unset] [])) _
  refine XT.iconstV X.here hx rfl 1 (hb hby at_59) rfl ?_
  show Steps p.tables e below (T.setTop (mkF m 60 #[.val (.int v0), .val (.int v1), .val (.int v2), .val (.int v3), .val (.int (v0 &&& 1073741823)), .val (.int (v1 &&& 7)), .val (.int ((XT.ushr v1 3) &&& 7)), .val (.int 0), .val (.int ((XT.ushr v3 2) &&& 3)), .val (.int (1 + (v2 &&& 3))), .val (.int (1 + ((XT.ushr v2 2) &&& 3))), .unset, .unset, .unset, .unset, .unset, .unset, .unset, .unset, .unset] [(.int 1)])) _
  refine XS.iloadN X.here hx rfl (hb hby at_60) rfl ?_
  show Steps p.tables e below (T.setTop (mkF m 61 #[.val (.int v0), .val (.int v1), .val (.int v2), .val (.int v3), .val (.int (v0 &&& 1073741823)), .val (.int (v1 &&& 7)), .val (.int ((XT.ushr v1 3) &&& 7)), .val (.int 0), .val (.int ((XT.ushr v3 2) &&& 3)), .val (.int (1 + (v2 &&& 3))), .val (.int (1 + ((XT.ushr v2 2) &&& 3))), .unset, .unset, .unset, .unset, .unset, .unset, .unset, .unset, .unset] [(.int v2), (.int 1)])) _
  refine XT.iconstV X.here hx rfl 4 (hb hby at_61) rfl ?_
  show Steps p.tables e below (T.setTop (mkF m 62 #[.val (.int v0), .val (.int v1), .val (.int v2), .val (.int v3), .val (.int (v0 &&& 1073741823)), .val (.int (v1 &&& 7)), .val (.int ((XT.ushr v1 3) &&& 7)), .val (.int 0), .val (.int ((XT.ushr v3 2) &&& 3)), .val (.int (1 + (v2 &&& 3))), .val (.int (1 + ((XT.ushr v2 2) &&& 3))), .unset, .unset, .unset, .unset, .unset, .unset, .unset, .unset, .unset] [(.int 4), (.int v2), (.int 1)])) _
  refine XT.iushr X.here hx rfl (hb hby at_62) rfl ?_
  show Steps p.tables e below (T.setTop (mkF m 63 #[.val (.int v0), .val (.int v1), .val (.int v2), .val (.int v3), .val (.int (v0 &&& 1073741823)), .val (.int (v1 &&& 7)), .val (.int ((XT.ushr v1 3) &&& 7)), .val (.int 0), .val (.int ((XT.ushr v3 2) &&& 3)), .val (.int (1 + (v2 &&& 3))), .val (.int (1 + ((XT.ushr v2 2) &&& 3))), .unset, .unset, .unset, .unset, .unset, .unset, .unset, .unset, .unset] [(.int (XT.ushr v2 4)), (.int 1)])) _
  refine XT.iconstV X.here hx rfl 3 (hb hby at_63) rfl ?_
  show Steps p.tables e below (T.setTop (mkF m 64 #[.val (.int v0), .val (.int v1), .val (.int v2), .val (.int v3), .val (.int (v0 &&& 1073741823)), .val (.int (v1 &&& 7)), .val (.int ((XT.ushr v1 3) &&& 7)), .val (.int 0), .val (.int ((XT.ushr v3 2) &&& 3)), .val (.int (1 + (v2 &&& 3))), .val (.int (1 + ((XT.ushr v2 2) &&& 3))), .unset, .unset, .unset, .unset, .unset, .unset, .unset, .unset, .unset] [(.int 3), (.int (XT.ushr v2 4)), (.int 1)])) _
  refine XS.iand X.here hx rfl (hb hby at_64) rfl ?_
  show Steps p.tables e below (T.setTop (mkF m 65 #[.val (.int v0), .val (.int v1), .val (.int v2), .val (.int v3), .val (.int (v0 &&& 1073741823)), .val (.int (v1 &&& 7)), .val (.int ((XT.ushr v1 3) &&& 7)), .val (.int 0), .val (.int ((XT.ushr v3 2) &&& 3)), .val (.int (1 + (v2 &&& 3))), .val (.int (1 + ((XT.ushr v2 2) &&& 3))), .unset, .unset, .unset, .unset, .unset, .unset, .unset, .unset, .unset] [(.int ((XT.ushr v2 4) &&& 3)), (.int 1)])) _
  refine XS.iadd X.here hx rfl (hb hby at_65) rfl ?_
  show Steps p.tables e below (T.setTop (mkF m 66 #[.val (.int v0), .val (.int v1), .val (.int v2), .val (.int v3), .val (.int (v0 &&& 1073741823)), .val (.int (v1 &&& 7)), .val (.int ((XT.ushr v1 3) &&& 7)), .val (.int 0), .val (.int ((XT.ushr v3 2) &&& 3)), .val (.int (1 + (v2 &&& 3))), .val (.int (1 + ((XT.ushr v2 2) &&& 3))), .unset, .unset, .unset, .unset, .unset, .unset, .unset, .unset, .unset] [(.int (1 + ((XT.ushr v2 4) &&& 3)))])) _
  refine XS.istore X.here hx rfl (hb hby at_66) rfl rfl ?_
  show Steps p.tables e below (T.setTop (mkF m 68 #[.val (.int v0), .val (.int v1), .val (.int v2), .val (.int v3), .val (.int (v0 &&& 1073741823)), .val (.int (v1 &&& 7)), .val (.int ((XT.ushr v1 3) &&& 7)), .val (.int 0), .val (.int ((XT.ushr v3 2) &&& 3)), .val (.int (1 + (v2 &&& 3))), .val (.int (1 + ((XT.ushr v2 2) &&& 3))), .val (.int (1 + ((XT.ushr v2 4) &&& 3))), .unset, .unset, .unset, .unset, .unset, .unset, .unset, .unset] [])) _
  exact k'
set_option maxRecDepth 65536 in
set_option maxHeartbeats 40000000 in
theorem own_s0b {cells slots : Nat} (X : Stand p l e room_1 s m args below meth c T locs cells slots) (hx : p.tables.exec = Jvm.exec) (hZ : Z.Warmed39 s.vm) (hw : ∀ d ∈ tables_1, d.before a0 Z = true) (hby : c.code = code) (hown : s.vm.findClass "com/example/herring/herring/sim/FlowCapacitySetCarsPerSecondPinLaw" = some m.cls) {v0 v1 v2 v3 : Int32} (h7 : ¬ v1 &&& 7 = 7) {target : State}
    (k' : Steps p.tables e below (T.setTop (mkF m 68 #[.val (.int v0), .val (.int v1), .val (.int v2), .val (.int v3), .val (.int (v0 &&& 1073741823)), .val (.int (v1 &&& 7)), .val (.int ((XT.ushr v1 3) &&& 7)), .val (.int (v3 &&& 3)), .val (.int ((XT.ushr v3 2) &&& 3)), .val (.int (1 + (v2 &&& 3))), .val (.int (1 + ((XT.ushr v2 2) &&& 3))), .val (.int (1 + ((XT.ushr v2 4) &&& 3))), .unset, .unset, .unset, .unset, .unset, .unset, .unset, .unset] [])) target) : Steps p.tables e below (T.setTop (mkF m 0 #[.val (.int v0), .val (.int v1), .val (.int v2), .val (.int v3), .unset, .unset, .unset, .unset, .unset, .unset, .unset, .unset, .unset, .unset, .unset, .unset, .unset, .unset, .unset, .unset] [])) target := by
  show Steps p.tables e below (T.setTop (mkF m 0 #[.val (.int v0), .val (.int v1), .val (.int v2), .val (.int v3), .unset, .unset, .unset, .unset, .unset, .unset, .unset, .unset, .unset, .unset, .unset, .unset, .unset, .unset, .unset, .unset] [])) _
  refine XS.iloadN X.here hx rfl (hb hby at_0) rfl ?_
  show Steps p.tables e below (T.setTop (mkF m 1 #[.val (.int v0), .val (.int v1), .val (.int v2), .val (.int v3), .unset, .unset, .unset, .unset, .unset, .unset, .unset, .unset, .unset, .unset, .unset, .unset, .unset, .unset, .unset, .unset] [(.int v0)])) _
  refine X.ldcI hx hown (mvT hZ (hw _ (List.mem_of_getElem? (i := 0) rfl))) rfl (hb hby at_1) ?_
  show Steps p.tables e below (T.setTop (mkF m 3 #[.val (.int v0), .val (.int v1), .val (.int v2), .val (.int v3), .unset, .unset, .unset, .unset, .unset, .unset, .unset, .unset, .unset, .unset, .unset, .unset, .unset, .unset, .unset, .unset] [(.int 1073741823), (.int v0)])) _
  refine XS.iand X.here hx rfl (hb hby at_3) rfl ?_
  show Steps p.tables e below (T.setTop (mkF m 4 #[.val (.int v0), .val (.int v1), .val (.int v2), .val (.int v3), .unset, .unset, .unset, .unset, .unset, .unset, .unset, .unset, .unset, .unset, .unset, .unset, .unset, .unset, .unset, .unset] [(.int (v0 &&& 1073741823))])) _
  refine XS.istore X.here hx rfl (hb hby at_4) rfl rfl ?_
  show Steps p.tables e below (T.setTop (mkF m 6 #[.val (.int v0), .val (.int v1), .val (.int v2), .val (.int v3), .val (.int (v0 &&& 1073741823)), .unset, .unset, .unset, .unset, .unset, .unset, .unset, .unset, .unset, .unset, .unset, .unset, .unset, .unset, .unset] [])) _
  refine XS.iloadN X.here hx rfl (hb hby at_6) rfl ?_
  show Steps p.tables e below (T.setTop (mkF m 7 #[.val (.int v0), .val (.int v1), .val (.int v2), .val (.int v3), .val (.int (v0 &&& 1073741823)), .unset, .unset, .unset, .unset, .unset, .unset, .unset, .unset, .unset, .unset, .unset, .unset, .unset, .unset, .unset] [(.int v1)])) _
  refine XT.bipushV X.here hx rfl 7 (hb hby at_7) (by decide) ?_
  show Steps p.tables e below (T.setTop (mkF m 9 #[.val (.int v0), .val (.int v1), .val (.int v2), .val (.int v3), .val (.int (v0 &&& 1073741823)), .unset, .unset, .unset, .unset, .unset, .unset, .unset, .unset, .unset, .unset, .unset, .unset, .unset, .unset, .unset] [(.int 7), (.int v1)])) _
  refine XS.iand X.here hx rfl (hb hby at_9) rfl ?_
  show Steps p.tables e below (T.setTop (mkF m 10 #[.val (.int v0), .val (.int v1), .val (.int v2), .val (.int v3), .val (.int (v0 &&& 1073741823)), .unset, .unset, .unset, .unset, .unset, .unset, .unset, .unset, .unset, .unset, .unset, .unset, .unset, .unset, .unset] [(.int (v1 &&& 7))])) _
  refine XS.istore X.here hx rfl (hb hby at_10) rfl rfl ?_
  show Steps p.tables e below (T.setTop (mkF m 12 #[.val (.int v0), .val (.int v1), .val (.int v2), .val (.int v3), .val (.int (v0 &&& 1073741823)), .val (.int (v1 &&& 7)), .unset, .unset, .unset, .unset, .unset, .unset, .unset, .unset, .unset, .unset, .unset, .unset, .unset, .unset] [])) _
  refine XS.iloadN X.here hx rfl (hb hby at_12) rfl ?_
  show Steps p.tables e below (T.setTop (mkF m 13 #[.val (.int v0), .val (.int v1), .val (.int v2), .val (.int v3), .val (.int (v0 &&& 1073741823)), .val (.int (v1 &&& 7)), .unset, .unset, .unset, .unset, .unset, .unset, .unset, .unset, .unset, .unset, .unset, .unset, .unset, .unset] [(.int v1)])) _
  refine XT.iconstV X.here hx rfl 3 (hb hby at_13) rfl ?_
  show Steps p.tables e below (T.setTop (mkF m 14 #[.val (.int v0), .val (.int v1), .val (.int v2), .val (.int v3), .val (.int (v0 &&& 1073741823)), .val (.int (v1 &&& 7)), .unset, .unset, .unset, .unset, .unset, .unset, .unset, .unset, .unset, .unset, .unset, .unset, .unset, .unset] [(.int 3), (.int v1)])) _
  refine XT.iushr X.here hx rfl (hb hby at_14) rfl ?_
  show Steps p.tables e below (T.setTop (mkF m 15 #[.val (.int v0), .val (.int v1), .val (.int v2), .val (.int v3), .val (.int (v0 &&& 1073741823)), .val (.int (v1 &&& 7)), .unset, .unset, .unset, .unset, .unset, .unset, .unset, .unset, .unset, .unset, .unset, .unset, .unset, .unset] [(.int (XT.ushr v1 3))])) _
  refine XT.bipushV X.here hx rfl 7 (hb hby at_15) (by decide) ?_
  show Steps p.tables e below (T.setTop (mkF m 17 #[.val (.int v0), .val (.int v1), .val (.int v2), .val (.int v3), .val (.int (v0 &&& 1073741823)), .val (.int (v1 &&& 7)), .unset, .unset, .unset, .unset, .unset, .unset, .unset, .unset, .unset, .unset, .unset, .unset, .unset, .unset] [(.int 7), (.int (XT.ushr v1 3))])) _
  refine XS.iand X.here hx rfl (hb hby at_17) rfl ?_
  show Steps p.tables e below (T.setTop (mkF m 18 #[.val (.int v0), .val (.int v1), .val (.int v2), .val (.int v3), .val (.int (v0 &&& 1073741823)), .val (.int (v1 &&& 7)), .unset, .unset, .unset, .unset, .unset, .unset, .unset, .unset, .unset, .unset, .unset, .unset, .unset, .unset] [(.int ((XT.ushr v1 3) &&& 7))])) _
  refine XS.istore X.here hx rfl (hb hby at_18) rfl rfl ?_
  show Steps p.tables e below (T.setTop (mkF m 20 #[.val (.int v0), .val (.int v1), .val (.int v2), .val (.int v3), .val (.int (v0 &&& 1073741823)), .val (.int (v1 &&& 7)), .val (.int ((XT.ushr v1 3) &&& 7)), .unset, .unset, .unset, .unset, .unset, .unset, .unset, .unset, .unset, .unset, .unset, .unset, .unset] [])) _
  refine XS.iload X.here hx rfl (hb hby at_20) rfl ?_
  show Steps p.tables e below (T.setTop (mkF m 22 #[.val (.int v0), .val (.int v1), .val (.int v2), .val (.int v3), .val (.int (v0 &&& 1073741823)), .val (.int (v1 &&& 7)), .val (.int ((XT.ushr v1 3) &&& 7)), .unset, .unset, .unset, .unset, .unset, .unset, .unset, .unset, .unset, .unset, .unset, .unset, .unset] [(.int (v1 &&& 7))])) _
  refine XT.bipushV X.here hx rfl 7 (hb hby at_22) (by decide) ?_
  show Steps p.tables e below (T.setTop (mkF m 24 #[.val (.int v0), .val (.int v1), .val (.int v2), .val (.int v3), .val (.int (v0 &&& 1073741823)), .val (.int (v1 &&& 7)), .val (.int ((XT.ushr v1 3) &&& 7)), .unset, .unset, .unset, .unset, .unset, .unset, .unset, .unset, .unset, .unset, .unset, .unset, .unset] [(.int 7), (.int (v1 &&& 7))])) _
  refine XS.icmpYes X.here hx rfl rfl (hb hby at_24) rfl (XT.ii_ne_t h7) (show (0 : Int) ≤ ((24 : Nat) : Int) + (7) by decide) (show (((24 : Nat) : Int) + (7)).toNat = 31 by decide) ?_
  show Steps p.tables e below (T.setTop (mkF m 31 #[.val (.int v0), .val (.int v1), .val (.int v2), .val (.int v3), .val (.int (v0 &&& 1073741823)), .val (.int (v1 &&& 7)), .val (.int ((XT.ushr v1 3) &&& 7)), .unset, .unset, .unset, .unset, .unset, .unset, .unset, .unset, .unset, .unset, .unset, .unset, .unset] [])) _
  refine XS.iloadN X.here hx rfl (hb hby at_31) rfl ?_
  show Steps p.tables e below (T.setTop (mkF m 32 #[.val (.int v0), .val (.int v1), .val (.int v2), .val (.int v3), .val (.int (v0 &&& 1073741823)), .val (.int (v1 &&& 7)), .val (.int ((XT.ushr v1 3) &&& 7)), .unset, .unset, .unset, .unset, .unset, .unset, .unset, .unset, .unset, .unset, .unset, .unset, .unset] [(.int v3)])) _
  refine XT.iconstV X.here hx rfl 3 (hb hby at_32) rfl ?_
  show Steps p.tables e below (T.setTop (mkF m 33 #[.val (.int v0), .val (.int v1), .val (.int v2), .val (.int v3), .val (.int (v0 &&& 1073741823)), .val (.int (v1 &&& 7)), .val (.int ((XT.ushr v1 3) &&& 7)), .unset, .unset, .unset, .unset, .unset, .unset, .unset, .unset, .unset, .unset, .unset, .unset, .unset] [(.int 3), (.int v3)])) _
  refine XS.iand X.here hx rfl (hb hby at_33) rfl ?_
  show Steps p.tables e below (T.setTop (mkF m 34 #[.val (.int v0), .val (.int v1), .val (.int v2), .val (.int v3), .val (.int (v0 &&& 1073741823)), .val (.int (v1 &&& 7)), .val (.int ((XT.ushr v1 3) &&& 7)), .unset, .unset, .unset, .unset, .unset, .unset, .unset, .unset, .unset, .unset, .unset, .unset, .unset] [(.int (v3 &&& 3))])) _
  refine XS.istore X.here hx rfl (hb hby at_34) rfl rfl ?_
  show Steps p.tables e below (T.setTop (mkF m 36 #[.val (.int v0), .val (.int v1), .val (.int v2), .val (.int v3), .val (.int (v0 &&& 1073741823)), .val (.int (v1 &&& 7)), .val (.int ((XT.ushr v1 3) &&& 7)), .val (.int (v3 &&& 3)), .unset, .unset, .unset, .unset, .unset, .unset, .unset, .unset, .unset, .unset, .unset, .unset] [])) _
  refine XS.iloadN X.here hx rfl (hb hby at_36) rfl ?_
  show Steps p.tables e below (T.setTop (mkF m 37 #[.val (.int v0), .val (.int v1), .val (.int v2), .val (.int v3), .val (.int (v0 &&& 1073741823)), .val (.int (v1 &&& 7)), .val (.int ((XT.ushr v1 3) &&& 7)), .val (.int (v3 &&& 3)), .unset, .unset, .unset, .unset, .unset, .unset, .unset, .unset, .unset, .unset, .unset, .unset] [(.int v3)])) _
  refine XT.iconstV X.here hx rfl 2 (hb hby at_37) rfl ?_
  show Steps p.tables e below (T.setTop (mkF m 38 #[.val (.int v0), .val (.int v1), .val (.int v2), .val (.int v3), .val (.int (v0 &&& 1073741823)), .val (.int (v1 &&& 7)), .val (.int ((XT.ushr v1 3) &&& 7)), .val (.int (v3 &&& 3)), .unset, .unset, .unset, .unset, .unset, .unset, .unset, .unset, .unset, .unset, .unset, .unset] [(.int 2), (.int v3)])) _
  refine XT.iushr X.here hx rfl (hb hby at_38) rfl ?_
  show Steps p.tables e below (T.setTop (mkF m 39 #[.val (.int v0), .val (.int v1), .val (.int v2), .val (.int v3), .val (.int (v0 &&& 1073741823)), .val (.int (v1 &&& 7)), .val (.int ((XT.ushr v1 3) &&& 7)), .val (.int (v3 &&& 3)), .unset, .unset, .unset, .unset, .unset, .unset, .unset, .unset, .unset, .unset, .unset, .unset] [(.int (XT.ushr v3 2))])) _
  refine XT.iconstV X.here hx rfl 3 (hb hby at_39) rfl ?_
  show Steps p.tables e below (T.setTop (mkF m 40 #[.val (.int v0), .val (.int v1), .val (.int v2), .val (.int v3), .val (.int (v0 &&& 1073741823)), .val (.int (v1 &&& 7)), .val (.int ((XT.ushr v1 3) &&& 7)), .val (.int (v3 &&& 3)), .unset, .unset, .unset, .unset, .unset, .unset, .unset, .unset, .unset, .unset, .unset, .unset] [(.int 3), (.int (XT.ushr v3 2))])) _
  refine XS.iand X.here hx rfl (hb hby at_40) rfl ?_
  show Steps p.tables e below (T.setTop (mkF m 41 #[.val (.int v0), .val (.int v1), .val (.int v2), .val (.int v3), .val (.int (v0 &&& 1073741823)), .val (.int (v1 &&& 7)), .val (.int ((XT.ushr v1 3) &&& 7)), .val (.int (v3 &&& 3)), .unset, .unset, .unset, .unset, .unset, .unset, .unset, .unset, .unset, .unset, .unset, .unset] [(.int ((XT.ushr v3 2) &&& 3))])) _
  refine XS.istore X.here hx rfl (hb hby at_41) rfl rfl ?_
  show Steps p.tables e below (T.setTop (mkF m 43 #[.val (.int v0), .val (.int v1), .val (.int v2), .val (.int v3), .val (.int (v0 &&& 1073741823)), .val (.int (v1 &&& 7)), .val (.int ((XT.ushr v1 3) &&& 7)), .val (.int (v3 &&& 3)), .val (.int ((XT.ushr v3 2) &&& 3)), .unset, .unset, .unset, .unset, .unset, .unset, .unset, .unset, .unset, .unset, .unset] [])) _
  refine XT.iconstV X.here hx rfl 1 (hb hby at_43) rfl ?_
  show Steps p.tables e below (T.setTop (mkF m 44 #[.val (.int v0), .val (.int v1), .val (.int v2), .val (.int v3), .val (.int (v0 &&& 1073741823)), .val (.int (v1 &&& 7)), .val (.int ((XT.ushr v1 3) &&& 7)), .val (.int (v3 &&& 3)), .val (.int ((XT.ushr v3 2) &&& 3)), .unset, .unset, .unset, .unset, .unset, .unset, .unset, .unset, .unset, .unset, .unset] [(.int 1)])) _
  refine XS.iloadN X.here hx rfl (hb hby at_44) rfl ?_
  show Steps p.tables e below (T.setTop (mkF m 45 #[.val (.int v0), .val (.int v1), .val (.int v2), .val (.int v3), .val (.int (v0 &&& 1073741823)), .val (.int (v1 &&& 7)), .val (.int ((XT.ushr v1 3) &&& 7)), .val (.int (v3 &&& 3)), .val (.int ((XT.ushr v3 2) &&& 3)), .unset, .unset, .unset, .unset, .unset, .unset, .unset, .unset, .unset, .unset, .unset] [(.int v2), (.int 1)])) _
  refine XT.iconstV X.here hx rfl 3 (hb hby at_45) rfl ?_
  show Steps p.tables e below (T.setTop (mkF m 46 #[.val (.int v0), .val (.int v1), .val (.int v2), .val (.int v3), .val (.int (v0 &&& 1073741823)), .val (.int (v1 &&& 7)), .val (.int ((XT.ushr v1 3) &&& 7)), .val (.int (v3 &&& 3)), .val (.int ((XT.ushr v3 2) &&& 3)), .unset, .unset, .unset, .unset, .unset, .unset, .unset, .unset, .unset, .unset, .unset] [(.int 3), (.int v2), (.int 1)])) _
  refine XS.iand X.here hx rfl (hb hby at_46) rfl ?_
  show Steps p.tables e below (T.setTop (mkF m 47 #[.val (.int v0), .val (.int v1), .val (.int v2), .val (.int v3), .val (.int (v0 &&& 1073741823)), .val (.int (v1 &&& 7)), .val (.int ((XT.ushr v1 3) &&& 7)), .val (.int (v3 &&& 3)), .val (.int ((XT.ushr v3 2) &&& 3)), .unset, .unset, .unset, .unset, .unset, .unset, .unset, .unset, .unset, .unset, .unset] [(.int (v2 &&& 3)), (.int 1)])) _
  refine XS.iadd X.here hx rfl (hb hby at_47) rfl ?_
  show Steps p.tables e below (T.setTop (mkF m 48 #[.val (.int v0), .val (.int v1), .val (.int v2), .val (.int v3), .val (.int (v0 &&& 1073741823)), .val (.int (v1 &&& 7)), .val (.int ((XT.ushr v1 3) &&& 7)), .val (.int (v3 &&& 3)), .val (.int ((XT.ushr v3 2) &&& 3)), .unset, .unset, .unset, .unset, .unset, .unset, .unset, .unset, .unset, .unset, .unset] [(.int (1 + (v2 &&& 3)))])) _
  refine XS.istore X.here hx rfl (hb hby at_48) rfl rfl ?_
  show Steps p.tables e below (T.setTop (mkF m 50 #[.val (.int v0), .val (.int v1), .val (.int v2), .val (.int v3), .val (.int (v0 &&& 1073741823)), .val (.int (v1 &&& 7)), .val (.int ((XT.ushr v1 3) &&& 7)), .val (.int (v3 &&& 3)), .val (.int ((XT.ushr v3 2) &&& 3)), .val (.int (1 + (v2 &&& 3))), .unset, .unset, .unset, .unset, .unset, .unset, .unset, .unset, .unset, .unset] [])) _
  refine XT.iconstV X.here hx rfl 1 (hb hby at_50) rfl ?_
  show Steps p.tables e below (T.setTop (mkF m 51 #[.val (.int v0), .val (.int v1), .val (.int v2), .val (.int v3), .val (.int (v0 &&& 1073741823)), .val (.int (v1 &&& 7)), .val (.int ((XT.ushr v1 3) &&& 7)), .val (.int (v3 &&& 3)), .val (.int ((XT.ushr v3 2) &&& 3)), .val (.int (1 + (v2 &&& 3))), .unset, .unset, .unset, .unset, .unset, .unset, .unset, .unset, .unset, .unset] [(.int 1)])) _
  refine XS.iloadN X.here hx rfl (hb hby at_51) rfl ?_
  show Steps p.tables e below (T.setTop (mkF m 52 #[.val (.int v0), .val (.int v1), .val (.int v2), .val (.int v3), .val (.int (v0 &&& 1073741823)), .val (.int (v1 &&& 7)), .val (.int ((XT.ushr v1 3) &&& 7)), .val (.int (v3 &&& 3)), .val (.int ((XT.ushr v3 2) &&& 3)), .val (.int (1 + (v2 &&& 3))), .unset, .unset, .unset, .unset, .unset, .unset, .unset, .unset, .unset, .unset] [(.int v2), (.int 1)])) _
  refine XT.iconstV X.here hx rfl 2 (hb hby at_52) rfl ?_
  show Steps p.tables e below (T.setTop (mkF m 53 #[.val (.int v0), .val (.int v1), .val (.int v2), .val (.int v3), .val (.int (v0 &&& 1073741823)), .val (.int (v1 &&& 7)), .val (.int ((XT.ushr v1 3) &&& 7)), .val (.int (v3 &&& 3)), .val (.int ((XT.ushr v3 2) &&& 3)), .val (.int (1 + (v2 &&& 3))), .unset, .unset, .unset, .unset, .unset, .unset, .unset, .unset, .unset, .unset] [(.int 2), (.int v2), (.int 1)])) _
  refine XT.iushr X.here hx rfl (hb hby at_53) rfl ?_
  show Steps p.tables e below (T.setTop (mkF m 54 #[.val (.int v0), .val (.int v1), .val (.int v2), .val (.int v3), .val (.int (v0 &&& 1073741823)), .val (.int (v1 &&& 7)), .val (.int ((XT.ushr v1 3) &&& 7)), .val (.int (v3 &&& 3)), .val (.int ((XT.ushr v3 2) &&& 3)), .val (.int (1 + (v2 &&& 3))), .unset, .unset, .unset, .unset, .unset, .unset, .unset, .unset, .unset, .unset] [(.int (XT.ushr v2 2)), (.int 1)])) _
  refine XT.iconstV X.here hx rfl 3 (hb hby at_54) rfl ?_
  show Steps p.tables e below (T.setTop (mkF m 55 #[.val (.int v0), .val (.int v1), .val (.int v2), .val (.int v3), .val (.int (v0 &&& 1073741823)), .val (.int (v1 &&& 7)), .val (.int ((XT.ushr v1 3) &&& 7)), .val (.int (v3 &&& 3)), .val (.int ((XT.ushr v3 2) &&& 3)), .val (.int (1 + (v2 &&& 3))), .unset, .unset, .unset, .unset, .unset, .unset, .unset, .unset, .unset, .unset] [(.int 3), (.int (XT.ushr v2 2)), (.int 1)])) _
  refine XS.iand X.here hx rfl (hb hby at_55) rfl ?_
  show Steps p.tables e below (T.setTop (mkF m 56 #[.val (.int v0), .val (.int v1), .val (.int v2), .val (.int v3), .val (.int (v0 &&& 1073741823)), .val (.int (v1 &&& 7)), .val (.int ((XT.ushr v1 3) &&& 7)), .val (.int (v3 &&& 3)), .val (.int ((XT.ushr v3 2) &&& 3)), .val (.int (1 + (v2 &&& 3))), .unset, .unset, .unset, .unset, .unset, .unset, .unset, .unset, .unset, .unset] [(.int ((XT.ushr v2 2) &&& 3)), (.int 1)])) _
  refine XS.iadd X.here hx rfl (hb hby at_56) rfl ?_
  show Steps p.tables e below (T.setTop (mkF m 57 #[.val (.int v0), .val (.int v1), .val (.int v2), .val (.int v3), .val (.int (v0 &&& 1073741823)), .val (.int (v1 &&& 7)), .val (.int ((XT.ushr v1 3) &&& 7)), .val (.int (v3 &&& 3)), .val (.int ((XT.ushr v3 2) &&& 3)), .val (.int (1 + (v2 &&& 3))), .unset, .unset, .unset, .unset, .unset, .unset, .unset, .unset, .unset, .unset] [(.int (1 + ((XT.ushr v2 2) &&& 3)))])) _
  refine XS.istore X.here hx rfl (hb hby at_57) rfl rfl ?_
  show Steps p.tables e below (T.setTop (mkF m 59 #[.val (.int v0), .val (.int v1), .val (.int v2), .val (.int v3), .val (.int (v0 &&& 1073741823)), .val (.int (v1 &&& 7)), .val (.int ((XT.ushr v1 3) &&& 7)), .val (.int (v3 &&& 3)), .val (.int ((XT.ushr v3 2) &&& 3)), .val (.int (1 + (v2 &&& 3))), .val (.int (1 + ((XT.ushr v2 2) &&& 3))), .unset, .unset, .unset, .unset, .unset, .unset, .unset, .unset, .unset] [])) _
  refine XT.iconstV X.here hx rfl 1 (hb hby at_59) rfl ?_
  show Steps p.tables e below (T.setTop (mkF m 60 #[.val (.int v0), .val (.int v1), .val (.int v2), .val (.int v3), .val (.int (v0 &&& 1073741823)), .val (.int (v1 &&& 7)), .val (.int ((XT.ushr v1 3) &&& 7)), .val (.int (v3 &&& 3)), .val (.int ((XT.ushr v3 2) &&& 3)), .val (.int (1 + (v2 &&& 3))), .val (.int (1 + ((XT.ushr v2 2) &&& 3))), .unset, .unset, .unset, .unset, .unset, .unset, .unset, .unset, .unset] [(.int 1)])) _
  refine XS.iloadN X.here hx rfl (hb hby at_60) rfl ?_
  show Steps p.tables e below (T.setTop (mkF m 61 #[.val (.int v0), .val (.int v1), .val (.int v2), .val (.int v3), .val (.int (v0 &&& 1073741823)), .val (.int (v1 &&& 7)), .val (.int ((XT.ushr v1 3) &&& 7)), .val (.int (v3 &&& 3)), .val (.int ((XT.ushr v3 2) &&& 3)), .val (.int (1 + (v2 &&& 3))), .val (.int (1 + ((XT.ushr v2 2) &&& 3))), .unset, .unset, .unset, .unset, .unset, .unset, .unset, .unset, .unset] [(.int v2), (.int 1)])) _
  refine XT.iconstV X.here hx rfl 4 (hb hby at_61) rfl ?_
  show Steps p.tables e below (T.setTop (mkF m 62 #[.val (.int v0), .val (.int v1), .val (.int v2), .val (.int v3), .val (.int (v0 &&& 1073741823)), .val (.int (v1 &&& 7)), .val (.int ((XT.ushr v1 3) &&& 7)), .val (.int (v3 &&& 3)), .val (.int ((XT.ushr v3 2) &&& 3)), .val (.int (1 + (v2 &&& 3))), .val (.int (1 + ((XT.ushr v2 2) &&& 3))), .unset, .unset, .unset, .unset, .unset, .unset, .unset, .unset, .unset] [(.int 4), (.int v2), (.int 1)])) _
  refine XT.iushr X.here hx rfl (hb hby at_62) rfl ?_
  show Steps p.tables e below (T.setTop (mkF m 63 #[.val (.int v0), .val (.int v1), .val (.int v2), .val (.int v3), .val (.int (v0 &&& 1073741823)), .val (.int (v1 &&& 7)), .val (.int ((XT.ushr v1 3) &&& 7)), .val (.int (v3 &&& 3)), .val (.int ((XT.ushr v3 2) &&& 3)), .val (.int (1 + (v2 &&& 3))), .val (.int (1 + ((XT.ushr v2 2) &&& 3))), .unset, .unset, .unset, .unset, .unset, .unset, .unset, .unset, .unset] [(.int (XT.ushr v2 4)), (.int 1)])) _
  refine XT.iconstV X.here hx rfl 3 (hb hby at_63) rfl ?_
  show Steps p.tables e below (T.setTop (mkF m 64 #[.val (.int v0), .val (.int v1), .val (.int v2), .val (.int v3), .val (.int (v0 &&& 1073741823)), .val (.int (v1 &&& 7)), .val (.int ((XT.ushr v1 3) &&& 7)), .val (.int (v3 &&& 3)), .val (.int ((XT.ushr v3 2) &&& 3)), .val (.int (1 + (v2 &&& 3))), .val (.int (1 + ((XT.ushr v2 2) &&& 3))), .unset, .unset, .unset, .unset, .unset, .unset, .unset, .unset, .unset] [(.int 3), (.int (XT.ushr v2 4)), (.int 1)])) _
  refine XS.iand X.here hx rfl (hb hby at_64) rfl ?_
  show Steps p.tables e below (T.setTop (mkF m 65 #[.val (.int v0), .val (.int v1), .val (.int v2), .val (.int v3), .val (.int (v0 &&& 1073741823)), .val (.int (v1 &&& 7)), .val (.int ((XT.ushr v1 3) &&& 7)), .val (.int (v3 &&& 3)), .val (.int ((XT.ushr v3 2) &&& 3)), .val (.int (1 + (v2 &&& 3))), .val (.int (1 + ((XT.ushr v2 2) &&& 3))), .unset, .unset, .unset, .unset, .unset, .unset, .unset, .unset, .unset] [(.int ((XT.ushr v2 4) &&& 3)), (.int 1)])) _
  refine XS.iadd X.here hx rfl (hb hby at_65) rfl ?_
  show Steps p.tables e below (T.setTop (mkF m 66 #[.val (.int v0), .val (.int v1), .val (.int v2), .val (.int v3), .val (.int (v0 &&& 1073741823)), .val (.int (v1 &&& 7)), .val (.int ((XT.ushr v1 3) &&& 7)), .val (.int (v3 &&& 3)), .val (.int ((XT.ushr v3 2) &&& 3)), .val (.int (1 + (v2 &&& 3))), .val (.int (1 + ((XT.ushr v2 2) &&& 3))), .unset, .unset, .unset, .unset, .unset, .unset, .unset, .unset, .unset] [(.int (1 + ((XT.ushr v2 4) &&& 3)))])) _
  refine XS.istore X.here hx rfl (hb hby at_66) rfl rfl ?_
  show Steps p.tables e below (T.setTop (mkF m 68 #[.val (.int v0), .val (.int v1), .val (.int v2), .val (.int v3), .val (.int (v0 &&& 1073741823)), .val (.int (v1 &&& 7)), .val (.int ((XT.ushr v1 3) &&& 7)), .val (.int (v3 &&& 3)), .val (.int ((XT.ushr v3 2) &&& 3)), .val (.int (1 + (v2 &&& 3))), .val (.int (1 + ((XT.ushr v2 2) &&& 3))), .val (.int (1 + ((XT.ushr v2 4) &&& 3))), .unset, .unset, .unset, .unset, .unset, .unset, .unset, .unset] [])) _
  exact k'
theorem own_lpd0 : parseMethodDescriptor "()V" = some ⟨[], none⟩ := by decide +kernel
theorem own_lpd1 : parseMethodDescriptor "(I)D" = some ⟨[.int], some .double⟩ := by decide +kernel
theorem own_lpd2 : parseMethodDescriptor "(D)V" = some ⟨[.double], none⟩ := by decide +kernel
set_option maxRecDepth 65536 in
set_option maxHeartbeats 40000000 in
theorem own_sA (X : Stand p l e room_1 s m args below meth c T locs 0 0) (hx : p.tables.exec = Jvm.exec) (hZ : Z.Warmed39 s.vm) (hw : ∀ d ∈ tables_1, d.before a0 Z = true) (hby : c.code = code) (hml : c.maxLocals = 20) (hown : s.vm.findClass "com/example/herring/herring/sim/FlowCapacitySetCarsPerSecondPinLaw" = some m.cls) (eT : T.heap = h) (N0 : Fr n0 locs) (Z0 : n0 ≤ h.size) (O : Old Z n0 h) (S0 : Sta Z Z.heap "java/lang/StrictMath" "$assertionsDisabled" "Z" (.int 1)) {v0 v1 v2 v3 t u1 u2 k g s1 s2 s3 : Int32} {q1 : UInt64} (Hq1 : (u1 = 7 ∧ q1 = 0) ∨ (¬ u1 = 7 ∧ FP.dmul (FP.i2d ((1 : Int32) <<< (u1 &&& 31))) 4598175219545276416 = q1 ∧ NoNaN64 q1)) :
    ∃ T' h' L', Stand p l e room_1 s m args below meth c T' L' 1 4 ∧ T'.heap = h' ∧ Fr n0 L' ∧ n0 ≤ h'.size ∧ Old Z n0 h' ∧ ∃ o, n0 ≤ o ∧ own_FC Z h' o q1 0 0 0 ∧ ∀ target, Steps p.tables e below (T'.setTop (mkF m 93 #[.val (.int v0), .val (.int v1), .val (.int v2), .val (.int v3), .val (.int t), .val (.int u1), .val (.int u2), .val (.int k), .val (.int g), .val (.int s1), .val (.int s2), .val (.int s3), .val (.ref o), .val (.long 0), .second, .val (.int 0), .unset, .unset, .unset, .unset] [])) target → Steps p.tables e below (T.setTop (mkF m 68 #[.val (.int v0), .val (.int v1), .val (.int v2), .val (.int v3), .val (.int t), .val (.int u1), .val (.int u2), .val (.int k), .val (.int g), .val (.int s1), .val (.int s2), .val (.int s3), .unset, .unset, .unset, .unset, .unset, .unset, .unset, .unset] [])) target := by
  obtain ⟨T1, h1, X1, e1, E1, A1, D1, -, st1⟩ := newO X hx hZ hown (hw _ (List.mem_of_getElem? (i := 1) rfl)) (hw _ (List.mem_of_getElem? (i := 2) rfl)) (hw _ (List.mem_of_getElem? (i := 3) rfl)) eT (g := (mkF m 68 #[.val (.int v0), .val (.int v1), .val (.int v2), .val (.int v3), .val (.int t), .val (.int u1), .val (.int u2), .val (.int k), .val (.int g), .val (.int s1), .val (.int s2), .val (.int s3), .unset, .unset, .unset, .unset, .unset, .unset, .unset, .unset] [])) rfl (hb hby at_68) (by decide) (by decide)
  obtain ⟨o, go⟩ : ∃ z, z = h.size := ⟨_, rfl⟩
  rw [← go] at A1 D1 st1
  have ge : n0 ≤ o := Nat.le_trans Z0 (Nat.le_of_eq go.symm)
  have F1 : own_FC Z h1 o 0 0 0 0 := ⟨A1, D1 (Or.inl (hw _ (List.mem_of_getElem? (i := 25) rfl))) (ty := .double) (by decide), D1 (Or.inl (hw _ (List.mem_of_getElem? (i := 41) rfl))) (ty := .double) (by decide), D1 (Or.inl (hw _ (List.mem_of_getElem? (i := 21) rfl))) (ty := .double) (by decide), D1 (Or.inl (hw _ (List.mem_of_getElem? (i := 23) rfl))) (ty := .double) (by decide)⟩
  have Z1 : n0 ≤ h1.size := Nat.le_trans Z0 E1.1
  have O1 : Old Z n0 h1 := O.ext E1
  obtain ⟨_, _, ⟨T2, L2, k2, n2⟩, -, X2, ⟨Lc2, hQ2, l2, y2, z2⟩, st2⟩ := X1.specialBack hx (y := (⟨"com/example/herring/herring/sim/FlowCapacity", "<init>", "()V"⟩ : MethodName)) rfl hown (mvT hZ (hw _ (List.mem_of_getElem? (i := 4) rfl))) (mvT hZ (hw _ (List.mem_of_getElem? (i := 5) rfl))) (mvT hZ (hw _ (List.mem_of_getElem? (i := 6) rfl))) (by decide) (backOf (W := 1) (own_init l Z a0 hw [] o h1 n0 Z1) hZ (hw _ (List.mem_of_getElem? (i := 6) rfl)) (hw _ (List.mem_of_getElem? (i := 3) rfl)) (by decide) (by decide)) (g := (mkF m 72 #[.val (.int v0), .val (.int v1), .val (.int v2), .val (.int v3), .val (.int t), .val (.int u1), .val (.int u2), .val (.int k), .val (.int g), .val (.int s1), .val (.int s2), .val (.int s3), .unset, .unset, .unset, .unset, .unset, .unset, .unset, .unset] [(.ref o), (.ref o)])) rfl (by rw [hml]; rfl) (Steps.refl _) (a := o) (argsL := []) (rest := [(.ref o)]) (lenOf own_lpd0 rfl) rfl (by show 2 * 0 + _ ≤ _; exact Nat.le_of_eq rfl) (hb hby at_72) (fun _ _ => ⟨rfl, e1, (by decide : 1 + 0 ≤ _), (by decide : 4 + 0 ≤ _)⟩)
  dsimp only [Pt.U, Pt.locs, Pt.cells, Pt.slots] at X2 l2 y2 z2 st2 hQ2
  subst l2 y2 z2
  obtain ⟨rfl, N2, e2⟩ := hQ2
  have N2 := Fr.app N0 N2
  obtain ⟨_, _, ⟨T3, L3, k3, n3⟩, -, X3, ⟨Lc3, hQ3, l3, y3, z3⟩, st3⟩ := Jvm.LawKit.callS X2 hx (y := (⟨"com/example/herring/herring/sim/FlowCapacitySetCarsPerSecondPinLaw", "rate", "(I)D"⟩ : MethodName)) hown (mvT hZ (hw _ (List.mem_of_getElem? (i := 10) rfl))) (mvT hZ (hw _ (List.mem_of_getElem? (i := 11) rfl))) (mvT hZ (hw _ (List.mem_of_getElem? (i := 12) rfl))) (mvT hZ (hw _ (List.mem_of_getElem? (i := 13) rfl))) (by decide) (backOf (W := 1) (own_rateA l Z a0 hw [] u1 q1 Hq1 h1 n0 Z1) hZ (hw _ (List.mem_of_getElem? (i := 13) rfl)) (hw _ (List.mem_of_getElem? (i := 12) rfl)) (by decide) (by decide)) (g := (mkF m 81 #[.val (.int v0), .val (.int v1), .val (.int v2), .val (.int v3), .val (.int t), .val (.int u1), .val (.int u2), .val (.int k), .val (.int g), .val (.int s1), .val (.int s2), .val (.int s3), .val (.ref o), .unset, .unset, .unset, .unset, .unset, .unset, .unset] [(.int u1), (.ref o)])) rfl (by rw [hml]; rfl) (argsL := [(.int u1)]) (rest := [(.ref o)]) (lenOf own_lpd1 rfl) rfl (by show 2 * 0 + _ ≤ _; exact Nat.le_of_eq rfl) (hb hby at_81) (fun _ _ => ⟨rfl, e2, (by decide : 1 + 0 + 0 ≤ _), (by decide : 4 + 0 + 0 ≤ _)⟩)
  dsimp only [Pt.U, Pt.locs, Pt.cells, Pt.slots] at X3 l3 y3 z3 st3 hQ3
  subst l3 y3 z3
  obtain ⟨rfl, N3, e3⟩ := hQ3
  have N3 := Fr.app N2 N3
  have go := ge
  obtain ⟨cq4, kq4, q4a, q4b, q4c⟩ := isOf hZ e3 F1.1
  obtain ⟨_, _, ⟨T4, L4, k4, n4⟩, -, X4, ⟨Lc4, hQ4, l4, y4, z4⟩, st4⟩ := X3.virtualBack hx (y := (⟨"com/example/herring/herring/sim/FlowCapacity", "setCarsPerSecond", "(D)V"⟩ : MethodName)) (z := (⟨"com/example/herring/herring/sim/FlowCapacity", "setCarsPerSecond", "(D)V"⟩ : MethodName)) hown (mvT hZ (hw _ (List.mem_of_getElem? (i := 15) rfl))) (mvT hZ (hw _ (List.mem_of_getElem? (i := 16) rfl))) (notFace_of_selects (args := #[]) (mvT hZ (hw _ (List.mem_of_getElem? (i := 18) rfl)))) (mvT hZ (hw _ (List.mem_of_getElem? (i := 18) rfl))) (mvT hZ (hw _ (List.mem_of_getElem? (i := 17) rfl))) (by decide) (backOf (W := 0) (own_setA l Z a0 hw [] o q1 0 0 0 0 0 (Or.inl ⟨rfl, rfl, by decide +kernel⟩) h1 n0 Z1 F1 ge) hZ (hw _ (List.mem_of_getElem? (i := 19) rfl)) (hw _ (List.mem_of_getElem? (i := 3) rfl)) (by decide) (by decide)) q4a q4c (g := (mkF m 84 #[.val (.int v0), .val (.int v1), .val (.int v2), .val (.int v3), .val (.int t), .val (.int u1), .val (.int u2), .val (.int k), .val (.int g), .val (.int s1), .val (.int s2), .val (.int s3), .val (.ref o), .unset, .unset, .unset, .unset, .unset, .unset, .unset] [(.double q1), (.ref o)])) rfl (by rw [hml]; rfl) (Steps.refl _) (argsL := [(.double q1)]) (rest := []) (lenOf own_lpd2 rfl) rfl (by show 2 * 0 + _ ≤ _; exact Nat.le_of_eq rfl) (hb hby at_84) (fun _ _ => ⟨rfl, e3, (by decide : 1 + 0 + 0 + 0 ≤ _), (by decide : 4 + 0 + 0 + 0 ≤ _)⟩)
  dsimp only [Pt.U, Pt.locs, Pt.cells, Pt.slots] at X4 l4 y4 z4 st4 hQ4
  subst l4 y4 z4
  obtain ⟨rfl, N4, K4, F4⟩ := hQ4
  have N4 := Fr.app N3 N4
  have Z4 : n0 ≤ T4.heap.size := Nat.le_trans Z1 K4.1
  have O4 : Old Z n0 T4.heap := O1.keep K4 (allS go all0)
  refine ⟨T4, T4.heap, _, X4, rfl, N4, Z4, O4, o, ge, F4, fun target k' => ?_⟩
  show Steps p.tables e below (T.setTop (mkF m 68 #[.val (.int v0), .val (.int v1), .val (.int v2), .val (.int v3), .val (.int t), .val (.int u1), .val (.int u2), .val (.int k), .val (.int g), .val (.int s1), .val (.int s2), .val (.int s3), .unset, .unset, .unset, .unset, .unset, .unset, .unset, .unset] [])) _
  refine st1 _ ?_
  show Steps p.tables e below (T1.setTop (mkF m 71 #[.val (.int v0), .val (.int v1), .val (.int v2), .val (.int v3), .val (.int t), .val (.int u1), .val (.int u2), .val (.int k), .val (.int g), .val (.int s1), .val (.int s2), .val (.int s3), .unset, .unset, .unset, .unset, .unset, .unset, .unset, .unset] [(.ref o)])) _
  refine XS.dup X1.here hx rfl (hb hby at_71) rfl rfl ?_
  show Steps p.tables e below (T1.setTop (mkF m 72 #[.val (.int v0), .val (.int v1), .val (.int v2), .val (.int v3), .val (.int t), .val (.int u1), .val (.int u2), .val (.int k), .val (.int g), .val (.int s1), .val (.int s2), .val (.int s3), .unset, .unset, .unset, .unset, .unset, .unset, .unset, .unset] [(.ref o), (.ref o)])) _
  refine st2.trans ?_
  show Steps p.tables e below (T2.setTop (mkF m 75 #[.val (.int v0), .val (.int v1), .val (.int v2), .val (.int v3), .val (.int t), .val (.int u1), .val (.int u2), .val (.int k), .val (.int g), .val (.int s1), .val (.int s2), .val (.int s3), .unset, .unset, .unset, .unset, .unset, .unset, .unset, .unset] [(.ref o)])) _
  refine XS.astore X2.here hx rfl (hb hby at_75) rfl rfl rfl ?_
  show Steps p.tables e below (T2.setTop (mkF m 77 #[.val (.int v0), .val (.int v1), .val (.int v2), .val (.int v3), .val (.int t), .val (.int u1), .val (.int u2), .val (.int k), .val (.int g), .val (.int s1), .val (.int s2), .val (.int s3), .val (.ref o), .unset, .unset, .unset, .unset, .unset, .unset, .unset] [])) _
  refine XS.aload X2.here hx rfl (hb hby at_77) rfl rfl ?_
  show Steps p.tables e below (T2.setTop (mkF m 79 #[.val (.int v0), .val (.int v1), .val (.int v2), .val (.int v3), .val (.int t), .val (.int u1), .val (.int u2), .val (.int k), .val (.int g), .val (.int s1), .val (.int s2), .val (.int s3), .val (.ref o), .unset, .unset, .unset, .unset, .unset, .unset, .unset] [(.ref o)])) _
  refine XS.iload X2.here hx rfl (hb hby at_79) rfl ?_
  show Steps p.tables e below (T2.setTop (mkF m 81 #[.val (.int v0), .val (.int v1), .val (.int v2), .val (.int v3), .val (.int t), .val (.int u1), .val (.int u2), .val (.int k), .val (.int g), .val (.int s1), .val (.int s2), .val (.int s3), .val (.ref o), .unset, .unset, .unset, .unset, .unset, .unset, .unset] [(.int u1), (.ref o)])) _
  refine st3 _ ?_
  show Steps p.tables e below (T3.setTop (mkF m 84 #[.val (.int v0), .val (.int v1), .val (.int v2), .val (.int v3), .val (.int t), .val (.int u1), .val (.int u2), .val (.int k), .val (.int g), .val (.int s1), .val (.int s2), .val (.int s3), .val (.ref o), .unset, .unset, .unset, .unset, .unset, .unset, .unset] [(.double q1), (.ref o)])) _
  refine st4.trans ?_
  show Steps p.tables e below (T4.setTop (mkF m 87 #[.val (.int v0), .val (.int v1), .val (.int v2), .val (.int v3), .val (.int t), .val (.int u1), .val (.int u2), .val (.int k), .val (.int g), .val (.int s1), .val (.int s2), .val (.int s3), .val (.ref o), .unset, .unset, .unset, .unset, .unset, .unset, .unset] [])) _
  refine XT.lconstV X4.here hx rfl 0 (hb hby at_87) (by decide) ?_
  show Steps p.tables e below (T4.setTop (mkF m 88 #[.val (.int v0), .val (.int v1), .val (.int v2), .val (.int v3), .val (.int t), .val (.int u1), .val (.int u2), .val (.int k), .val (.int g), .val (.int s1), .val (.int s2), .val (.int s3), .val (.ref o), .unset, .unset, .unset, .unset, .unset, .unset, .unset] [(.long 0)])) _
  refine XT.lstore X4.here hx rfl (hb hby at_88) rfl rfl ?_
  show Steps p.tables e below (T4.setTop (mkF m 90 #[.val (.int v0), .val (.int v1), .val (.int v2), .val (.int v3), .val (.int t), .val (.int u1), .val (.int u2), .val (.int k), .val (.int g), .val (.int s1), .val (.int s2), .val (.int s3), .val (.ref o), .val (.long 0), .second, .unset, .unset, .unset, .unset, .unset] [])) _
  refine XT.iconstV X4.here hx rfl 0 (hb hby at_90) rfl ?_
  show Steps p.tables e below (T4.setTop (mkF m 91 #[.val (.int v0), .val (.int v1), .val (.int v2), .val (.int v3), .val (.int t), .val (.int u1), .val (.int u2), .val (.int k), .val (.int g), .val (.int s1), .val (.int s2), .val (.int s3), .val (.ref o), .val (.long 0), .second, .unset, .unset, .unset, .unset, .unset] [(.int 0)])) _
  refine XS.istore X4.here hx rfl (hb hby at_91) rfl rfl ?_
  show Steps p.tables e below (T4.setTop (mkF m 93 #[.val (.int v0), .val (.int v1), .val (.int v2), .val (.int v3), .val (.int t), .val (.int u1), .val (.int u2), .val (.int k), .val (.int g), .val (.int s1), .val (.int s2), .val (.int s3), .val (.ref o), .val (.long 0), .second, .val (.int 0), .unset, .unset, .unset, .unset] [])) _
  exact k'
set_option maxRecDepth 65536 in
set_option maxHeartbeats 40000000 in
theorem own_k1 (X : Stand p l e room_1 s m args below meth c T locs 1 4) (hx : p.tables.exec = Jvm.exec) (hZ : Z.Warmed39 s.vm) (hw : ∀ d ∈ tables_1, d.before a0 Z = true) (hby : c.code = code) (hml : c.maxLocals = 20) (hown : s.vm.findClass "com/example/herring/herring/sim/FlowCapacitySetCarsPerSecondPinLaw" = some m.cls) (eT : T.heap = h) (N0 : Fr n0 locs) (Z0 : n0 ≤ h.size) (O : Old Z n0 h) (S0 : Sta Z Z.heap "java/lang/StrictMath" "$assertionsDisabled" "Z" (.int 1)) {v0 v1 v2 v3 t u1 u2 k g s1 s2 s3 : Int32}{o : Addr} {J : Int64} {D z1 z2 : Int32} (go : n0 ≤ o) {c1 c2 c3 c4 : UInt64} (F : own_FC Z h o c1 c2 c3 c4) (hk : k < 1) :
    ∃ T' h' L', Stand p l e room_1 s m args below meth c T' L' 1 4 ∧ T'.heap = h' ∧ Fr n0 L' ∧ n0 ≤ h'.size ∧ Old Z n0 h' ∧ own_FC Z h' o c1 c2 c3 c4 ∧ ∀ target, Steps p.tables e below (T'.setTop (mkF m 125 #[.val (.int v0), .val (.int v1), .val (.int v2), .val (.int v3), .val (.int t), .val (.int u1), .val (.int u2), .val (.int k), .val (.int g), .val (.int s1), .val (.int s2), .val (.int s3), .val (.ref o), .val (.long J), .second, .val (.int D), .unset, .unset, .unset, .unset] [])) target → Steps p.tables e below (T.setTop (mkF m 93 #[.val (.int v0), .val (.int v1), .val (.int v2), .val (.int v3), .val (.int t), .val (.int u1), .val (.int u2), .val (.int k), .val (.int g), .val (.int s1), .val (.int s2), .val (.int s3), .val (.ref o), .val (.long J), .second, .val (.int D), .unset, .unset, .unset, .unset] [])) target := by
  refine ⟨T, h, _, X, eT, N0, Z0, O, F, fun target k' => ?_⟩
  show Steps p.tables e below (T.setTop (mkF m 93 #[.val (.int v0), .val (.int v1), .val (.int v2), .val (.int v3), .val (.int t), .val (.int u1), .val (.int u2), .val (.int k), .val (.int g), .val (.int s1), .val (.int s2), .val (.int s3), .val (.ref o), .val (.long J), .second, .val (.int D), .unset, .unset, .unset, .unset] [])) _
  refine XS.iload X.here hx rfl (hb hby at_93) rfl ?_
  show Steps p.tables e below (T.setTop (mkF m 95 #[.val (.int v0), .val (.int v1), .val (.int v2), .val (.int v3), .val (.int t), .val (.int u1), .val (.int u2), .val (.int k), .val (.int g), .val (.int s1), .val (.int s2), .val (.int s3), .val (.ref o), .val (.long J), .second, .val (.int D), .unset, .unset, .unset, .unset] [(.int k)])) _
  refine XT.iconstV X.here hx rfl 1 (hb hby at_95) rfl ?_
  show Steps p.tables e below (T.setTop (mkF m 96 #[.val (.int v0), .val (.int v1), .val (.int v2), .val (.int v3), .val (.int t), .val (.int u1), .val (.int u2), .val (.int k), .val (.int g), .val (.int s1), .val (.int s2), .val (.int s3), .val (.ref o), .val (.long J), .second, .val (.int D), .unset, .unset, .unset, .unset] [(.int 1), (.int k)])) _
  refine XS.icmpYes X.here hx rfl rfl (hb hby at_96) rfl (XT.ii_lt_t hk) (show (0 : Int) ≤ ((96 : Nat) : Int) + (29) by decide) (show (((96 : Nat) : Int) + (29)).toNat = 125 by decide) ?_
  show Steps p.tables e below (T.setTop (mkF m 125 #[.val (.int v0), .val (.int v1), .val (.int v2), .val (.int v3), .val (.int t), .val (.int u1), .val (.int u2), .val (.int k), .val (.int g), .val (.int s1), .val (.int s2), .val (.int s3), .val (.ref o), .val (.long J), .second, .val (.int D), .unset, .unset, .unset, .unset] [])) _
  exact k'
set_option maxRecDepth 65536 in
set_option maxHeartbeats 40000000 in
theorem own_k2 (X : Stand p l e room_1 s m args below meth c T locs 1 4) (hx : p.tables.exec = Jvm.exec) (hZ : Z.Warmed39 s.vm) (hw : ∀ d ∈ tables_1, d.before a0 Z = true) (hby : c.code = code) (hml : c.maxLocals = 20) (hown : s.vm.findClass "com/example/herring/herring/sim/FlowCapacitySetCarsPerSecondPinLaw" = some m.cls) (eT : T.heap = h) (N0 : Fr n0 locs) (Z0 : n0 ≤ h.size) (O : Old Z n0 h) (S0 : Sta Z Z.heap "java/lang/StrictMath" "$assertionsDisabled" "Z" (.int 1)) {v0 v1 v2 v3 t u1 u2 k g s1 s2 s3 : Int32}{o : Addr} {J : Int64} {D z1 z2 : Int32} (go : n0 ≤ o) {c1 c2 c3 c4 : UInt64} (F : own_FC Z h o c1 c2 c3 c4) (hk : k < 2) :
    ∃ T' h' L', Stand p l e room_1 s m args below meth c T' L' 1 4 ∧ T'.heap = h' ∧ Fr n0 L' ∧ n0 ≤ h'.size ∧ Old Z n0 h' ∧ own_FC Z h' o c1 c2 c3 c4 ∧ ∀ target, Steps p.tables e below (T'.setTop (mkF m 200 #[.val (.int v0), .val (.int v1), .val (.int v2), .val (.int v3), .val (.int t), .val (.int u1), .val (.int u2), .val (.int k), .val (.int g), .val (.int s1), .val (.int s2), .val (.int s3), .val (.ref o), .val (.long J), .second, .val (.int D), .unset, .unset, .unset, .unset] [])) target → Steps p.tables e below (T.setTop (mkF m 125 #[.val (.int v0), .val (.int v1), .val (.int v2), .val (.int v3), .val (.int t), .val (.int u1), .val (.int u2), .val (.int k), .val (.int g), .val (.int s1), .val (.int s2), .val (.int s3), .val (.ref o), .val (.long J), .second, .val (.int D), .unset, .unset, .unset, .unset] [])) target := by
  refine ⟨T, h, _, X, eT, N0, Z0, O, F, fun target k' => ?_⟩
  show Steps p.tables e below (T.setTop (mkF m 125 #[.val (.int v0), .val (.int v1), .val (.int v2), .val (.int v3), .val (.int t), .val (.int u1), .val (.int u2), .val (.int k), .val (.int g), .val (.int s1), .val (.int s2), .val (.int s3), .val (.ref o), .val (.long J), .second, .val (.int D), .unset, .unset, .unset, .unset] [])) _
  refine XS.iload X.here hx rfl (hb hby at_125) rfl ?_
  show Steps p.tables e below (T.setTop (mkF m 127 #[.val (.int v0), .val (.int v1), .val (.int v2), .val (.int v3), .val (.int t), .val (.int u1), .val (.int u2), .val (.int k), .val (.int g), .val (.int s1), .val (.int s2), .val (.int s3), .val (.ref o), .val (.long J), .second, .val (.int D), .unset, .unset, .unset, .unset] [(.int k)])) _
  refine XT.iconstV X.here hx rfl 2 (hb hby at_127) rfl ?_
  show Steps p.tables e below (T.setTop (mkF m 128 #[.val (.int v0), .val (.int v1), .val (.int v2), .val (.int v3), .val (.int t), .val (.int u1), .val (.int u2), .val (.int k), .val (.int g), .val (.int s1), .val (.int s2), .val (.int s3), .val (.ref o), .val (.long J), .second, .val (.int D), .unset, .unset, .unset, .unset] [(.int 2), (.int k)])) _
  refine XS.icmpYes X.here hx rfl rfl (hb hby at_128) rfl (XT.ii_lt_t hk) (show (0 : Int) ≤ ((128 : Nat) : Int) + (72) by decide) (show (((128 : Nat) : Int) + (72)).toNat = 200 by decide) ?_
  show Steps p.tables e below (T.setTop (mkF m 200 #[.val (.int v0), .val (.int v1), .val (.int v2), .val (.int v3), .val (.int t), .val (.int u1), .val (.int u2), .val (.int k), .val (.int g), .val (.int s1), .val (.int s2), .val (.int s3), .val (.ref o), .val (.long J), .second, .val (.int D), .unset, .unset, .unset, .unset] [])) _
  exact k'
set_option maxRecDepth 65536 in
set_option maxHeartbeats 40000000 in
theorem own_k3u (X : Stand p l e room_1 s m args below meth c T locs 1 4) (hx : p.tables.exec = Jvm.exec) (hZ : Z.Warmed39 s.vm) (hw : ∀ d ∈ tables_1, d.before a0 Z = true) (hby : c.code = code) (hml : c.maxLocals = 20) (hown : s.vm.findClass "com/example/herring/herring/sim/FlowCapacitySetCarsPerSecondPinLaw" = some m.cls) (eT : T.heap = h) (N0 : Fr n0 locs) (Z0 : n0 ≤ h.size) (O : Old Z n0 h) (S0 : Sta Z Z.heap "java/lang/StrictMath" "$assertionsDisabled" "Z" (.int 1)) {v0 v1 v2 v3 t u1 u2 k g s1 s2 s3 : Int32}{o : Addr} {J : Int64} {D z1 z2 : Int32} (go : n0 ≤ o) {c1 c2 c3 c4 : UInt64} (F : own_FC Z h o c1 c2 c3 c4) (hk : k < 3) :
    ∃ T' h' L', Stand p l e room_1 s m args below meth c T' L' 1 4 ∧ T'.heap = h' ∧ Fr n0 L' ∧ n0 ≤ h'.size ∧ Old Z n0 h' ∧ own_FC Z h' o c1 c2 c3 c4 ∧ ∀ target, Steps p.tables e below (T'.setTop (mkF m 261 #[.val (.int v0), .val (.int v1), .val (.int v2), .val (.int v3), .val (.int t), .val (.int u1), .val (.int u2), .val (.int k), .val (.int g), .val (.int s1), .val (.int s2), .val (.int s3), .val (.ref o), .val (.long J), .second, .val (.int D), .unset, .unset, .unset, .unset] [])) target → Steps p.tables e below (T.setTop (mkF m 200 #[.val (.int v0), .val (.int v1), .val (.int v2), .val (.int v3), .val (.int t), .val (.int u1), .val (.int u2), .val (.int k), .val (.int g), .val (.int s1), .val (.int s2), .val (.int s3), .val (.ref o), .val (.long J), .second, .val (.int D), .unset, .unset, .unset, .unset] [])) target := by
  refine ⟨T, h, _, X, eT, N0, Z0, O, F, fun target k' => ?_⟩
  show Steps p.tables e below (T.setTop (mkF m 200 #[.val (.int v0), .val (.int v1), .val (.int v2), .val (.int v3), .val (.int t), .val (.int u1), .val (.int u2), .val (.int k), .val (.int g), .val (.int s1), .val (.int s2), .val (.int s3), .val (.ref o), .val (.long J), .second, .val (.int D), .unset, .unset, .unset, .unset] [])) _
  refine XS.iload X.here hx rfl (hb hby at_200) rfl ?_
  show Steps p.tables e below (T.setTop (mkF m 202 #[.val (.int v0), .val (.int v1), .val (.int v2), .val (.int v3), .val (.int t), .val (.int u1), .val (.int u2), .val (.int k), .val (.int g), .val (.int s1), .val (.int s2), .val (.int s3), .val (.ref o), .val (.long J), .second, .val (.int D), .unset, .unset, .unset, .unset] [(.int k)])) _
  refine XT.iconstV X.here hx rfl 3 (hb hby at_202) rfl ?_
  show Steps p.tables e below (T.setTop (mkF m 203 #[.val (.int v0), .val (.int v1), .val (.int v2), .val (.int v3), .val (.int t), .val (.int u1), .val (.int u2), .val (.int k), .val (.int g), .val (.int s1), .val (.int s2), .val (.int s3), .val (.ref o), .val (.long J), .second, .val (.int D), .unset, .unset, .unset, .unset] [(.int 3), (.int k)])) _
  refine XS.icmpYes X.here hx rfl rfl (hb hby at_203) rfl (XT.ii_lt_t hk) (show (0 : Int) ≤ ((203 : Nat) : Int) + (58) by decide) (show (((203 : Nat) : Int) + (58)).toNat = 261 by decide) ?_
  show Steps p.tables e below (T.setTop (mkF m 261 #[.val (.int v0), .val (.int v1), .val (.int v2), .val (.int v3), .val (.int t), .val (.int u1), .val (.int u2), .val (.int k), .val (.int g), .val (.int s1), .val (.int s2), .val (.int s3), .val (.ref o), .val (.long J), .second, .val (.int D), .unset, .unset, .unset, .unset] [])) _
  exact k'
set_option maxRecDepth 65536 in
set_option maxHeartbeats 40000000 in
theorem own_k3i (X : Stand p l e room_1 s m args below meth c T locs 1 4) (hx : p.tables.exec = Jvm.exec) (hZ : Z.Warmed39 s.vm) (hw : ∀ d ∈ tables_1, d.before a0 Z = true) (hby : c.code = code) (hml : c.maxLocals = 20) (hown : s.vm.findClass "com/example/herring/herring/sim/FlowCapacitySetCarsPerSecondPinLaw" = some m.cls) (eT : T.heap = h) (N0 : Fr n0 locs) (Z0 : n0 ≤ h.size) (O : Old Z n0 h) (S0 : Sta Z Z.heap "java/lang/StrictMath" "$assertionsDisabled" "Z" (.int 1)) {v0 v1 v2 v3 t u1 u2 k g s1 s2 s3 : Int32}{o : Addr} {J : Int64} {D z1 z2 : Int32} (go : n0 ≤ o) {c1 c2 c3 c4 : UInt64} (F : own_FC Z h o c1 c2 c3 c4) (hk : k < 3) :
    ∃ T' h' L', Stand p l e room_1 s m args below meth c T' L' 1 4 ∧ T'.heap = h' ∧ Fr n0 L' ∧ n0 ≤ h'.size ∧ Old Z n0 h' ∧ own_FC Z h' o c1 c2 c3 c4 ∧ ∀ target, Steps p.tables e below (T'.setTop (mkF m 261 #[.val (.int v0), .val (.int v1), .val (.int v2), .val (.int v3), .val (.int t), .val (.int u1), .val (.int u2), .val (.int k), .val (.int g), .val (.int s1), .val (.int s2), .val (.int s3), .val (.ref o), .val (.long J), .second, .val (.int D), .val (.int z1), .val (.int z2), .unset, .unset] [])) target → Steps p.tables e below (T.setTop (mkF m 200 #[.val (.int v0), .val (.int v1), .val (.int v2), .val (.int v3), .val (.int t), .val (.int u1), .val (.int u2), .val (.int k), .val (.int g), .val (.int s1), .val (.int s2), .val (.int s3), .val (.ref o), .val (.long J), .second, .val (.int D), .val (.int z1), .val (.int z2), .unset, .unset] [])) target := by
  refine ⟨T, h, _, X, eT, N0, Z0, O, F, fun target k' => ?_⟩
  show Steps p.tables e below (T.setTop (mkF m 200 #[.val (.int v0), .val (.int v1), .val (.int v2), .val (.int v3), .val (.int t), .val (.int u1), .val (.int u2), .val (.int k), .val (.int g), .val (.int s1), .val (.int s2), .val (.int s3), .val (.ref o), .val (.long J), .second, .val (.int D), .val (.int z1), .val (.int z2), .unset, .unset] [])) _
  refine XS.iload X.here hx rfl (hb hby at_200) rfl ?_
  show Steps p.tables e below (T.setTop (mkF m 202 #[.val (.int v0), .val (.int v1), .val (.int v2), .val (.int v3), .val (.int t), .val (.int u1), .val (.int u2), .val (.int k), .val (.int g), .val (.int s1), .val (.int s2), .val (.int s3), .val (.ref o), .val (.long J), .second, .val (.int D), .val (.int z1), .val (.int z2), .unset, .unset] [(.int k)])) _
  refine XT.iconstV X.here hx rfl 3 (hb hby at_202) rfl ?_
  show Steps p.tables e below (T.setTop (mkF m 203 #[.val (.int v0), .val (.int v1), .val (.int v2), .val (.int v3), .val (.int t), .val (.int u1), .val (.int u2), .val (.int k), .val (.int g), .val (.int s1), .val (.int s2), .val (.int s3), .val (.ref o), .val (.long J), .second, .val (.int D), .val (.int z1), .val (.int z2), .unset, .unset] [(.int 3), (.int k)])) _
  refine XS.icmpYes X.here hx rfl rfl (hb hby at_203) rfl (XT.ii_lt_t hk) (show (0 : Int) ≤ ((203 : Nat) : Int) + (58) by decide) (show (((203 : Nat) : Int) + (58)).toNat = 261 by decide) ?_
  show Steps p.tables e below (T.setTop (mkF m 261 #[.val (.int v0), .val (.int v1), .val (.int v2), .val (.int v3), .val (.int t), .val (.int u1), .val (.int u2), .val (.int k), .val (.int g), .val (.int s1), .val (.int s2), .val (.int s3), .val (.ref o), .val (.long J), .second, .val (.int D), .val (.int z1), .val (.int z2), .unset, .unset] [])) _
  exact k'
theorem own_lpd3 : parseMethodDescriptor "(ID)V" = some ⟨[.int, .double], none⟩ := by decide +kernel
set_option maxRecDepth 65536 in
set_option maxHeartbeats 40000000 in
theorem own_s2 (X : Stand p l e room_1 s m args below meth c T locs 1 4) (hx : p.tables.exec = Jvm.exec) (hZ : Z.Warmed39 s.vm) (hw : ∀ d ∈ tables_1, d.before a0 Z = true) (hby : c.code = code) (hml : c.maxLocals = 20) (hown : s.vm.findClass "com/example/herring/herring/sim/FlowCapacitySetCarsPerSecondPinLaw" = some m.cls) (eT : T.heap = h) (N0 : Fr n0 locs) (Z0 : n0 ≤ h.size) (O : Old Z n0 h) (S0 : Sta Z Z.heap "java/lang/StrictMath" "$assertionsDisabled" "Z" (.int 1)) {v0 v1 v2 v3 t u1 u2 k g s1 s2 s3 : Int32}{J : Int64} {D : Int32} {o : Addr} (go : n0 ≤ o) {c1 c2 c3 c4 q st x x2 : UInt64} {n : Nat} (F : own_FC Z h o c1 c2 c3 c4) (hn38 : n + 1 < 2 ^ 37 + 2 ^ 20) (hn126 : n % 128 ≤ 126) (hc1 : cmpValue (FP.dcmp c1 0) .l = 1) (hq : FP.ddiv c3 c1 = q) (hqn : NoNaN64 q) (hr' : FP.dadd c2 q = own_enc n) (hx2n : NoNaN64 x2) (hk : ¬ k < 1) (hxs : FP.dmul (FP.i2d s1) 4598175219545276416 = x) (hxn : NoNaN64 x) (H : ((Int32.ofNat (n / 128)).toInt64 < (t).toInt64 ∧ st = FP.i2d (t) ∧ FP.dadd 0 x = x2) ∨ (¬ (Int32.ofNat (n / 128)).toInt64 < (t).toInt64 ∧ st = c2 ∧ FP.dadd c3 x = x2))  :
    ∃ T' h' L', Stand p l e room_1 s m args below meth c T' L' 1 4 ∧ T'.heap = h' ∧ Fr n0 L' ∧ n0 ≤ h'.size ∧ Old Z n0 h' ∧ own_FC Z h' o c1 st x2 x ∧ ∀ target, Steps p.tables e below (T'.setTop (mkF m 125 #[.val (.int v0), .val (.int v1), .val (.int v2), .val (.int v3), .val (.int t), .val (.int u1), .val (.int u2), .val (.int k), .val (.int g), .val (.int s1), .val (.int s2), .val (.int s3), .val (.ref o), .val (.long (t.toInt64 <<< ((6 : Int32).toInt64 &&& 63))), .second, .val (.int s1), .unset, .unset, .unset, .unset] [])) target → Steps p.tables e below (T.setTop (mkF m 93 #[.val (.int v0), .val (.int v1), .val (.int v2), .val (.int v3), .val (.int t), .val (.int u1), .val (.int u2), .val (.int k), .val (.int g), .val (.int s1), .val (.int s2), .val (.int s3), .val (.ref o), .val (.long J), .second, .val (.int D), .unset, .unset, .unset, .unset] [])) target := by
  obtain ⟨cq1, kq1, q1a, q1b, q1c⟩ := isOf hZ eT F.1
  obtain ⟨_, _, ⟨T1, L1, k1, n1⟩, -, X1, ⟨Lc1, hQ1, l1, y1, z1⟩, st1⟩ := X.virtualBack hx (y := (⟨"com/example/herring/herring/sim/FlowCapacity", "count", "(ID)V"⟩ : MethodName)) (z := (⟨"com/example/herring/herring/sim/FlowCapacity", "count", "(ID)V"⟩ : MethodName)) hown (mvT hZ (hw _ (List.mem_of_getElem? (i := 26) rfl))) (mvT hZ (hw _ (List.mem_of_getElem? (i := 27) rfl))) (notFace_of_selects (args := #[]) (mvT hZ (hw _ (List.mem_of_getElem? (i := 29) rfl)))) (mvT hZ (hw _ (List.mem_of_getElem? (i := 29) rfl))) (mvT hZ (hw _ (List.mem_of_getElem? (i := 28) rfl))) (by decide) (backOf (W := 0) (own_countA l Z a0 hw [] o t x c1 c2 c3 c4 q n hn38 hn126 hc1 hq hqn hr' st x2 hx2n H h n0 Z0 F go (S0.ext O.2)) hZ (hw _ (List.mem_of_getElem? (i := 30) rfl)) (hw _ (List.mem_of_getElem? (i := 3) rfl)) (by decide) (by decide)) q1a q1c (g := (mkF m 110 #[.val (.int v0), .val (.int v1), .val (.int v2), .val (.int v3), .val (.int t), .val (.int u1), .val (.int u2), .val (.int k), .val (.int g), .val (.int s1), .val (.int s2), .val (.int s3), .val (.ref o), .val (.long J), .second, .val (.int D), .unset, .unset, .unset, .unset] [(.double x), (.int t), (.ref o)])) rfl (by rw [hml]; rfl) (Steps.refl _) (argsL := [(.int t), (.double x)]) (rest := []) (lenOf own_lpd3 rfl) rfl (by show 2 * 0 + _ ≤ _; exact Nat.le_of_eq rfl) (hb hby at_110) (fun _ _ => ⟨rfl, eT, (by decide : 1 + 0 ≤ _), (by decide : 4 + 0 ≤ _)⟩)
  dsimp only [Pt.U, Pt.locs, Pt.cells, Pt.slots] at X1 l1 y1 z1 st1 hQ1
  subst l1 y1 z1
  obtain ⟨rfl, N1, K1, F1⟩ := hQ1
  have N1 := Fr.app N0 N1
  have Z1 : n0 ≤ T1.heap.size := Nat.le_trans Z0 K1.1
  have O1 : Old Z n0 T1.heap := O.keep K1 (allS go all0)
  refine ⟨T1, T1.heap, _, X1, rfl, N1, Z1, O1, F1, fun target k' => ?_⟩
  show Steps p.tables e below (T.setTop (mkF m 93 #[.val (.int v0), .val (.int v1), .val (.int v2), .val (.int v3), .val (.int t), .val (.int u1), .val (.int u2), .val (.int k), .val (.int g), .val (.int s1), .val (.int s2), .val (.int s3), .val (.ref o), .val (.long J), .second, .val (.int D), .unset, .unset, .unset, .unset] [])) _
  refine XS.iload X.here hx rfl (hb hby at_93) rfl ?_
  show Steps p.tables e below (T.setTop (mkF m 95 #[.val (.int v0), .val (.int v1), .val (.int v2), .val (.int v3), .val (.int t), .val (.int u1), .val (.int u2), .val (.int k), .val (.int g), .val (.int s1), .val (.int s2), .val (.int s3), .val (.ref o), .val (.long J), .second, .val (.int D), .unset, .unset, .unset, .unset] [(.int k)])) _
  refine XT.iconstV X.here hx rfl 1 (hb hby at_95) rfl ?_
  show Steps p.tables e below (T.setTop (mkF m 96 #[.val (.int v0), .val (.int v1), .val (.int v2), .val (.int v3), .val (.int t), .val (.int u1), .val (.int u2), .val (.int k), .val (.int g), .val (.int s1), .val (.int s2), .val (.int s3), .val (.ref o), .val (.long J), .second, .val (.int D), .unset, .unset, .unset, .unset] [(.int 1), (.int k)])) _
  refine XS.icmpNo X.here hx rfl (hb hby at_96) rfl (XT.ii_lt_f hk) ?_
  show Steps p.tables e below (T.setTop (mkF m 99 #[.val (.int v0), .val (.int v1), .val (.int v2), .val (.int v3), .val (.int t), .val (.int u1), .val (.int u2), .val (.int k), .val (.int g), .val (.int s1), .val (.int s2), .val (.int s3), .val (.ref o), .val (.long J), .second, .val (.int D), .unset, .unset, .unset, .unset] [])) _
  refine XS.aload X.here hx rfl (hb hby at_99) rfl rfl ?_
  show Steps p.tables e below (T.setTop (mkF m 101 #[.val (.int v0), .val (.int v1), .val (.int v2), .val (.int v3), .val (.int t), .val (.int u1), .val (.int u2), .val (.int k), .val (.int g), .val (.int s1), .val (.int s2), .val (.int s3), .val (.ref o), .val (.long J), .second, .val (.int D), .unset, .unset, .unset, .unset] [(.ref o)])) _
  refine XS.iload X.here hx rfl (hb hby at_101) rfl ?_
  show Steps p.tables e below (T.setTop (mkF m 103 #[.val (.int v0), .val (.int v1), .val (.int v2), .val (.int v3), .val (.int t), .val (.int u1), .val (.int u2), .val (.int k), .val (.int g), .val (.int s1), .val (.int s2), .val (.int s3), .val (.ref o), .val (.long J), .second, .val (.int D), .unset, .unset, .unset, .unset] [(.int t), (.ref o)])) _
  refine XS.iload X.here hx rfl (hb hby at_103) rfl ?_
  show Steps p.tables e below (T.setTop (mkF m 105 #[.val (.int v0), .val (.int v1), .val (.int v2), .val (.int v3), .val (.int t), .val (.int u1), .val (.int u2), .val (.int k), .val (.int g), .val (.int s1), .val (.int s2), .val (.int s3), .val (.ref o), .val (.long J), .second, .val (.int D), .unset, .unset, .unset, .unset] [(.int s1), (.int t), (.ref o)])) _
  refine XS.i2dS X.here hx rfl (hb hby at_105) rfl rfl ?_
  show Steps p.tables e below (T.setTop (mkF m 106 #[.val (.int v0), .val (.int v1), .val (.int v2), .val (.int v3), .val (.int t), .val (.int u1), .val (.int u2), .val (.int k), .val (.int g), .val (.int s1), .val (.int s2), .val (.int s3), .val (.ref o), .val (.long J), .second, .val (.int D), .unset, .unset, .unset, .unset] [(.double (FP.i2d s1)), (.int t), (.ref o)])) _
  refine X.ldc2DoubleC hx hown (mvT hZ (hw _ (List.mem_of_getElem? (i := 14) rfl))) (g := (mkF m 106 #[.val (.int v0), .val (.int v1), .val (.int v2), .val (.int v3), .val (.int t), .val (.int u1), .val (.int u2), .val (.int k), .val (.int g), .val (.int s1), .val (.int s2), .val (.int s3), .val (.ref o), .val (.long J), .second, .val (.int D), .unset, .unset, .unset, .unset] [(.double (FP.i2d s1)), (.int t), (.ref o)])) rfl (hb hby at_106) _ ?_
  show Steps p.tables e below (T.setTop (mkF m 109 #[.val (.int v0), .val (.int v1), .val (.int v2), .val (.int v3), .val (.int t), .val (.int u1), .val (.int u2), .val (.int k), .val (.int g), .val (.int s1), .val (.int s2), .val (.int s3), .val (.ref o), .val (.long J), .second, .val (.int D), .unset, .unset, .unset, .unset] [(.double 4598175219545276416), (.double (FP.i2d s1)), (.int t), (.ref o)])) _
  refine XS.dmulS X.here hx rfl (hb hby at_109) rfl (by rw [hxs]; exact hxn) hxs ?_
  show Steps p.tables e below (T.setTop (mkF m 110 #[.val (.int v0), .val (.int v1), .val (.int v2), .val (.int v3), .val (.int t), .val (.int u1), .val (.int u2), .val (.int k), .val (.int g), .val (.int s1), .val (.int s2), .val (.int s3), .val (.ref o), .val (.long J), .second, .val (.int D), .unset, .unset, .unset, .unset] [(.double x), (.int t), (.ref o)])) _
  refine st1.trans ?_
  show Steps p.tables e below (T1.setTop (mkF m 113 #[.val (.int v0), .val (.int v1), .val (.int v2), .val (.int v3), .val (.int t), .val (.int u1), .val (.int u2), .val (.int k), .val (.int g), .val (.int s1), .val (.int s2), .val (.int s3), .val (.ref o), .val (.long J), .second, .val (.int D), .unset, .unset, .unset, .unset] [])) _
  refine XS.iload X1.here hx rfl (hb hby at_113) rfl ?_
  show Steps p.tables e below (T1.setTop (mkF m 115 #[.val (.int v0), .val (.int v1), .val (.int v2), .val (.int v3), .val (.int t), .val (.int u1), .val (.int u2), .val (.int k), .val (.int g), .val (.int s1), .val (.int s2), .val (.int s3), .val (.ref o), .val (.long J), .second, .val (.int D), .unset, .unset, .unset, .unset] [(.int t)])) _
  refine XT.i2l X1.here hx rfl (hb hby at_115) rfl ?_
  show Steps p.tables e below (T1.setTop (mkF m 116 #[.val (.int v0), .val (.int v1), .val (.int v2), .val (.int v3), .val (.int t), .val (.int u1), .val (.int u2), .val (.int k), .val (.int g), .val (.int s1), .val (.int s2), .val (.int s3), .val (.ref o), .val (.long J), .second, .val (.int D), .unset, .unset, .unset, .unset] [(.long t.toInt64)])) _
  refine XT.bipushV X1.here hx rfl 6 (hb hby at_116) (by decide) ?_
  show Steps p.tables e below (T1.setTop (mkF m 118 #[.val (.int v0), .val (.int v1), .val (.int v2), .val (.int v3), .val (.int t), .val (.int u1), .val (.int u2), .val (.int k), .val (.int g), .val (.int s1), .val (.int s2), .val (.int s3), .val (.ref o), .val (.long J), .second, .val (.int D), .unset, .unset, .unset, .unset] [(.int 6), (.long t.toInt64)])) _
  refine XT.lshl X1.here hx rfl (hb hby at_118) rfl ?_
  show Steps p.tables e below (T1.setTop (mkF m 119 #[.val (.int v0), .val (.int v1), .val (.int v2), .val (.int v3), .val (.int t), .val (.int u1), .val (.int u2), .val (.int k), .val (.int g), .val (.int s1), .val (.int s2), .val (.int s3), .val (.ref o), .val (.long J), .second, .val (.int D), .unset, .unset, .unset, .unset] [(.long (t.toInt64 <<< ((6 : Int32).toInt64 &&& 63)))])) _
  refine XT.lstore X1.here hx rfl (hb hby at_119) rfl rfl ?_
  show Steps p.tables e below (T1.setTop (mkF m 121 #[.val (.int v0), .val (.int v1), .val (.int v2), .val (.int v3), .val (.int t), .val (.int u1), .val (.int u2), .val (.int k), .val (.int g), .val (.int s1), .val (.int s2), .val (.int s3), .val (.ref o), .val (.long (t.toInt64 <<< ((6 : Int32).toInt64 &&& 63))), .second, .val (.int D), .unset, .unset, .unset, .unset] [])) _
  refine XS.iload X1.here hx rfl (hb hby at_121) rfl ?_
  show Steps p.tables e below (T1.setTop (mkF m 123 #[.val (.int v0), .val (.int v1), .val (.int v2), .val (.int v3), .val (.int t), .val (.int u1), .val (.int u2), .val (.int k), .val (.int g), .val (.int s1), .val (.int s2), .val (.int s3), .val (.ref o), .val (.long (t.toInt64 <<< ((6 : Int32).toInt64 &&& 63))), .second, .val (.int D), .unset, .unset, .unset, .unset] [(.int s1)])) _
  refine XS.istore X1.here hx rfl (hb hby at_123) rfl rfl ?_
  show Steps p.tables e below (T1.setTop (mkF m 125 #[.val (.int v0), .val (.int v1), .val (.int v2), .val (.int v3), .val (.int t), .val (.int u1), .val (.int u2), .val (.int k), .val (.int g), .val (.int s1), .val (.int s2), .val (.int s3), .val (.ref o), .val (.long (t.toInt64 <<< ((6 : Int32).toInt64 &&& 63))), .second, .val (.int s1), .unset, .unset, .unset, .unset] [])) _
  exact k'
theorem own_lpd4 : parseMethodDescriptor "()J" = some ⟨[], some .long⟩ := by decide +kernel
set_option maxRecDepth 65536 in
set_option maxHeartbeats 40000000 in
theorem own_s3a (X : Stand p l e room_1 s m args below meth c T locs 1 4) (hx : p.tables.exec = Jvm.exec) (hZ : Z.Warmed39 s.vm) (hw : ∀ d ∈ tables_1, d.before a0 Z = true) (hby : c.code = code) (hml : c.maxLocals = 20) (hown : s.vm.findClass "com/example/herring/herring/sim/FlowCapacitySetCarsPerSecondPinLaw" = some m.cls) (eT : T.heap = h) (N0 : Fr n0 locs) (Z0 : n0 ≤ h.size) (O : Old Z n0 h) (S0 : Sta Z Z.heap "java/lang/StrictMath" "$assertionsDisabled" "Z" (.int 1)) {v0 v1 v2 v3 t u1 u2 k g s1 s2 s3 : Int32}{J : Int64} {D : Int32} {o : Addr} (go : n0 ≤ o) {c1 c2 c3 c4 q st x x2 : UInt64} {n : Nat} (F : own_FC Z h o c1 c2 c3 c4) (hn38 : n + 1 < 2 ^ 37 + 2 ^ 20) (hn126 : n % 128 ≤ 126) (hc1 : cmpValue (FP.dcmp c1 0) .l = 1) (hq : FP.ddiv c3 c1 = q) (hqn : NoNaN64 q) (hr' : FP.dadd c2 q = own_enc n) (hx2n : NoNaN64 x2) (hk : ¬ k < 2) (hxs : FP.dmul (FP.i2d s2) 4598175219545276416 = x) (hxn : NoNaN64 x) (H : ((Int32.ofNat (n / 128)).toInt64 < ((Int32.ofNat (n / 128)).toInt64.toInt32 + g).toInt64 ∧ st = FP.i2d ((Int32.ofNat (n / 128)).toInt64.toInt32 + g) ∧ FP.dadd 0 x = x2) ∨ (¬ (Int32.ofNat (n / 128)).toInt64 < ((Int32.ofNat (n / 128)).toInt64.toInt32 + g).toInt64 ∧ st = c2 ∧ FP.dadd c3 x = x2)) (hk2 : k = 2) (hg : 0 < g) :
    ∃ T' h' L', Stand p l e room_1 s m args below meth c T' L' 1 4 ∧ T'.heap = h' ∧ Fr n0 L' ∧ n0 ≤ h'.size ∧ Old Z n0 h' ∧ own_FC Z h' o c1 st x2 x ∧ ∀ target, Steps p.tables e below (T'.setTop (mkF m 200 #[.val (.int v0), .val (.int v1), .val (.int v2), .val (.int v3), .val (.int t), .val (.int u1), .val (.int u2), .val (.int k), .val (.int g), .val (.int s1), .val (.int s2), .val (.int s3), .val (.ref o), .val (.long ((((((Int32.ofNat (n / 128)).toInt64).toInt32) + g).toInt64) <<< ((6 : Int32).toInt64 &&& 63))), .second, .val (.int s2), .val (.int g), .val (.int ((((Int32.ofNat (n / 128)).toInt64).toInt32) + g)), .unset, .unset] [])) target → Steps p.tables e below (T.setTop (mkF m 125 #[.val (.int v0), .val (.int v1), .val (.int v2), .val (.int v3), .val (.int t), .val (.int u1), .val (.int u2), .val (.int k), .val (.int g), .val (.int s1), .val (.int s2), .val (.int s3), .val (.ref o), .val (.long J), .second, .val (.int D), .unset, .unset, .unset, .unset] [])) target := by
  obtain ⟨cq1, kq1, q1a, q1b, q1c⟩ := isOf hZ eT F.1
  obtain ⟨_, _, ⟨T1, L1, k1, n1⟩, -, X1, ⟨Lc1, hQ1, l1, y1, z1⟩, st1⟩ := X.virtualBack hx (y := (⟨"com/example/herring/herring/sim/FlowCapacity", "nextSecond", "()J"⟩ : MethodName)) (z := (⟨"com/example/herring/herring/sim/FlowCapacity", "nextSecond", "()J"⟩ : MethodName)) hown (mvT hZ (hw _ (List.mem_of_getElem? (i := 78) rfl))) (mvT hZ (hw _ (List.mem_of_getElem? (i := 32) rfl))) (notFace_of_selects (args := #[]) (mvT hZ (hw _ (List.mem_of_getElem? (i := 34) rfl)))) (mvT hZ (hw _ (List.mem_of_getElem? (i := 34) rfl))) (mvT hZ (hw _ (List.mem_of_getElem? (i := 33) rfl))) (by decide) (backOf (W := 0) (own_next l Z a0 hw [] o c1 c2 c3 c4 q n hn38 hn126 hc1 hq hqn hr' h n0 Z0 F (S0.ext O.2)) hZ (hw _ (List.mem_of_getElem? (i := 35) rfl)) (hw _ (List.mem_of_getElem? (i := 3) rfl)) (by decide) (by decide)) q1a q1c (g := (mkF m 147 #[.val (.int v0), .val (.int v1), .val (.int v2), .val (.int v3), .val (.int t), .val (.int u1), .val (.int u2), .val (.int k), .val (.int g), .val (.int s1), .val (.int s2), .val (.int s3), .val (.ref o), .val (.long J), .second, .val (.int D), .val (.int g), .unset, .unset, .unset] [(.ref o)])) rfl (by rw [hml]; rfl) (Steps.refl _) (argsL := []) (rest := []) (lenOf own_lpd4 rfl) rfl (by show 2 * 0 + _ ≤ _; exact Nat.le_of_eq rfl) (hb hby at_147) (fun _ _ => ⟨rfl, eT, (by decide : 1 + 0 ≤ _), (by decide : 4 + 0 ≤ _)⟩)
  dsimp only [Pt.U, Pt.locs, Pt.cells, Pt.slots] at X1 l1 y1 z1 st1 hQ1
  subst l1 y1 z1
  obtain ⟨rfl, N1, e1⟩ := hQ1
  have N1 := Fr.app N0 N1
  obtain ⟨cq2, kq2, q2a, q2b, q2c⟩ := isOf hZ e1 F.1
  obtain ⟨_, _, ⟨T2, L2, k2, n2⟩, -, X2, ⟨Lc2, hQ2, l2, y2, z2⟩, st2⟩ := X1.virtualBack hx (y := (⟨"com/example/herring/herring/sim/FlowCapacity", "count", "(ID)V"⟩ : MethodName)) (z := (⟨"com/example/herring/herring/sim/FlowCapacity", "count", "(ID)V"⟩ : MethodName)) hown (mvT hZ (hw _ (List.mem_of_getElem? (i := 26) rfl))) (mvT hZ (hw _ (List.mem_of_getElem? (i := 27) rfl))) (notFace_of_selects (args := #[]) (mvT hZ (hw _ (List.mem_of_getElem? (i := 29) rfl)))) (mvT hZ (hw _ (List.mem_of_getElem? (i := 29) rfl))) (mvT hZ (hw _ (List.mem_of_getElem? (i := 28) rfl))) (by decide) (backOf (W := 0) (own_countA l Z a0 hw [] o ((Int32.ofNat (n / 128)).toInt64.toInt32 + g) x c1 c2 c3 c4 q n hn38 hn126 hc1 hq hqn hr' st x2 hx2n H h n0 Z0 F go (S0.ext O.2)) hZ (hw _ (List.mem_of_getElem? (i := 30) rfl)) (hw _ (List.mem_of_getElem? (i := 3) rfl)) (by decide) (by decide)) q2a q2c (g := (mkF m 167 #[.val (.int v0), .val (.int v1), .val (.int v2), .val (.int v3), .val (.int t), .val (.int u1), .val (.int u2), .val (.int k), .val (.int g), .val (.int s1), .val (.int s2), .val (.int s3), .val (.ref o), .val (.long J), .second, .val (.int D), .val (.int g), .val (.int ((((Int32.ofNat (n / 128)).toInt64).toInt32) + g)), .unset, .unset] [(.double x), (.int ((((Int32.ofNat (n / 128)).toInt64).toInt32) + g)), (.ref o)])) rfl (by rw [hml]; rfl) (Steps.refl _) (argsL := [(.int ((((Int32.ofNat (n / 128)).toInt64).toInt32) + g)), (.double x)]) (rest := []) (lenOf own_lpd3 rfl) rfl (by show 2 * 0 + _ ≤ _; exact Nat.le_of_eq rfl) (hb hby at_167) (fun _ _ => ⟨rfl, e1, (by decide : 1 + 0 + 0 ≤ _), (by decide : 4 + 0 + 0 ≤ _)⟩)
  dsimp only [Pt.U, Pt.locs, Pt.cells, Pt.slots] at X2 l2 y2 z2 st2 hQ2
  subst l2 y2 z2
  obtain ⟨rfl, N2, K2, F2⟩ := hQ2
  have N2 := Fr.app N1 N2
  have Z2 : n0 ≤ T2.heap.size := Nat.le_trans Z0 K2.1
  have O2 : Old Z n0 T2.heap := O.keep K2 (allS go all0)
  refine ⟨T2, T2.heap, _, X2, rfl, N2, Z2, O2, F2, fun target k' => ?_⟩
  show Steps p.tables e below (T.setTop (mkF m 125 #[.val (.int v0), .val (.int v1), .val (.int v2), .val (.int v3), .val (.int t), .val (.int u1), .val (.int u2), .val (.int k), .val (.int g), .val (.int s1), .val (.int s2), .val (.int s3), .val (.ref o), .val (.long J), .second, .val (.int D), .unset, .unset, .unset, .unset] [])) _
  refine XS.iload X.here hx rfl (hb hby at_125) rfl ?_
  show Steps p.tables e below (T.setTop (mkF m 127 #[.val (.int v0), .val (.int v1), .val (.int v2), .val (.int v3), .val (.int t), .val (.int u1), .val (.int u2), .val (.int k), .val (.int g), .val (.int s1), .val (.int s2), .val (.int s3), .val (.ref o), .val (.long J), .second, .val (.int D), .unset, .unset, .unset, .unset] [(.int k)])) _
  refine XT.iconstV X.here hx rfl 2 (hb hby at_127) rfl ?_
  show Steps p.tables e below (T.setTop (mkF m 128 #[.val (.int v0), .val (.int v1), .val (.int v2), .val (.int v3), .val (.int t), .val (.int u1), .val (.int u2), .val (.int k), .val (.int g), .val (.int s1), .val (.int s2), .val (.int s3), .val (.ref o), .val (.long J), .second, .val (.int D), .unset, .unset, .unset, .unset] [(.int 2), (.int k)])) _
  refine XS.icmpNo X.here hx rfl (hb hby at_128) rfl (XT.ii_lt_f hk) ?_
  show Steps p.tables e below (T.setTop (mkF m 131 #[.val (.int v0), .val (.int v1), .val (.int v2), .val (.int v3), .val (.int t), .val (.int u1), .val (.int u2), .val (.int k), .val (.int g), .val (.int s1), .val (.int s2), .val (.int s3), .val (.ref o), .val (.long J), .second, .val (.int D), .unset, .unset, .unset, .unset] [])) _
  refine XS.iload X.here hx rfl (hb hby at_131) rfl ?_
  show Steps p.tables e below (T.setTop (mkF m 133 #[.val (.int v0), .val (.int v1), .val (.int v2), .val (.int v3), .val (.int t), .val (.int u1), .val (.int u2), .val (.int k), .val (.int g), .val (.int s1), .val (.int s2), .val (.int s3), .val (.ref o), .val (.long J), .second, .val (.int D), .unset, .unset, .unset, .unset] [(.int k)])) _
  refine XT.iconstV X.here hx rfl 2 (hb hby at_133) rfl ?_
  show Steps p.tables e below (T.setTop (mkF m 134 #[.val (.int v0), .val (.int v1), .val (.int v2), .val (.int v3), .val (.int t), .val (.int u1), .val (.int u2), .val (.int k), .val (.int g), .val (.int s1), .val (.int s2), .val (.int s3), .val (.ref o), .val (.long J), .second, .val (.int D), .unset, .unset, .unset, .unset] [(.int 2), (.int k)])) _
  refine XS.icmpNo X.here hx rfl (hb hby at_134) rfl (XT.ii_ne_f hk2) ?_
  show Steps p.tables e below (T.setTop (mkF m 137 #[.val (.int v0), .val (.int v1), .val (.int v2), .val (.int v3), .val (.int t), .val (.int u1), .val (.int u2), .val (.int k), .val (.int g), .val (.int s1), .val (.int s2), .val (.int s3), .val (.ref o), .val (.long J), .second, .val (.int D), .unset, .unset, .unset, .unset] [])) _
  refine XS.iload X.here hx rfl (hb hby at_137) rfl ?_
  show Steps p.tables e below (T.setTop (mkF m 139 #[.val (.int v0), .val (.int v1), .val (.int v2), .val (.int v3), .val (.int t), .val (.int u1), .val (.int u2), .val (.int k), .val (.int g), .val (.int s1), .val (.int s2), .val (.int s3), .val (.ref o), .val (.long J), .second, .val (.int D), .unset, .unset, .unset, .unset] [(.int g)])) _
  refine XS.goto X.here hx rfl rfl (hb hby at_139) (show (0 : Int) ≤ ((139 : Nat) : Int) + (4) by decide) (show (((139 : Nat) : Int) + (4)).toNat = 143 by decide) ?_
  show Steps p.tables e below (T.setTop (mkF m 143 #[.val (.int v0), .val (.int v1), .val (.int v2), .val (.int v3), .val (.int t), .val (.int u1), .val (.int u2), .val (.int k), .val (.int g), .val (.int s1), .val (.int s2), .val (.int s3), .val (.ref o), .val (.long J), .second, .val (.int D), .unset, .unset, .unset, .unset] [(.int g)])) _
  refine XS.istore X.here hx rfl (hb hby at_143) rfl rfl ?_
  show Steps p.tables e below (T.setTop (mkF m 145 #[.val (.int v0), .val (.int v1), .val (.int v2), .val (.int v3), .val (.int t), .val (.int u1), .val (.int u2), .val (.int k), .val (.int g), .val (.int s1), .val (.int s2), .val (.int s3), .val (.ref o), .val (.long J), .second, .val (.int D), .val (.int g), .unset, .unset, .unset] [])) _
  refine XS.aload X.here hx rfl (hb hby at_145) rfl rfl ?_
  show Steps p.tables e below (T.setTop (mkF m 147 #[.val (.int v0), .val (.int v1), .val (.int v2), .val (.int v3), .val (.int t), .val (.int u1), .val (.int u2), .val (.int k), .val (.int g), .val (.int s1), .val (.int s2), .val (.int s3), .val (.ref o), .val (.long J), .second, .val (.int D), .val (.int g), .unset, .unset, .unset] [(.ref o)])) _
  refine st1.trans ?_
  show Steps p.tables e below (T1.setTop (mkF m 150 #[.val (.int v0), .val (.int v1), .val (.int v2), .val (.int v3), .val (.int t), .val (.int u1), .val (.int u2), .val (.int k), .val (.int g), .val (.int s1), .val (.int s2), .val (.int s3), .val (.ref o), .val (.long J), .second, .val (.int D), .val (.int g), .unset, .unset, .unset] [(.long ((Int32.ofNat (n / 128)).toInt64))])) _
  refine XT.l2i X1.here hx rfl (hb hby at_150) rfl ?_
  show Steps p.tables e below (T1.setTop (mkF m 151 #[.val (.int v0), .val (.int v1), .val (.int v2), .val (.int v3), .val (.int t), .val (.int u1), .val (.int u2), .val (.int k), .val (.int g), .val (.int s1), .val (.int s2), .val (.int s3), .val (.ref o), .val (.long J), .second, .val (.int D), .val (.int g), .unset, .unset, .unset] [(.int (((Int32.ofNat (n / 128)).toInt64).toInt32))])) _
  refine XS.iload X1.here hx rfl (hb hby at_151) rfl ?_
  show Steps p.tables e below (T1.setTop (mkF m 153 #[.val (.int v0), .val (.int v1), .val (.int v2), .val (.int v3), .val (.int t), .val (.int u1), .val (.int u2), .val (.int k), .val (.int g), .val (.int s1), .val (.int s2), .val (.int s3), .val (.ref o), .val (.long J), .second, .val (.int D), .val (.int g), .unset, .unset, .unset] [(.int g), (.int (((Int32.ofNat (n / 128)).toInt64).toInt32))])) _
  refine XS.iadd X1.here hx rfl (hb hby at_153) rfl ?_
  show Steps p.tables e below (T1.setTop (mkF m 154 #[.val (.int v0), .val (.int v1), .val (.int v2), .val (.int v3), .val (.int t), .val (.int u1), .val (.int u2), .val (.int k), .val (.int g), .val (.int s1), .val (.int s2), .val (.int s3), .val (.ref o), .val (.long J), .second, .val (.int D), .val (.int g), .unset, .unset, .unset] [(.int ((((Int32.ofNat (n / 128)).toInt64).toInt32) + g))])) _
  refine XS.istore X1.here hx rfl (hb hby at_154) rfl rfl ?_
  show Steps p.tables e below (T1.setTop (mkF m 156 #[.val (.int v0), .val (.int v1), .val (.int v2), .val (.int v3), .val (.int t), .val (.int u1), .val (.int u2), .val (.int k), .val (.int g), .val (.int s1), .val (.int s2), .val (.int s3), .val (.ref o), .val (.long J), .second, .val (.int D), .val (.int g), .val (.int ((((Int32.ofNat (n / 128)).toInt64).toInt32) + g)), .unset, .unset] [])) _
  refine XS.aload X1.here hx rfl (hb hby at_156) rfl rfl ?_
  show Steps p.tables e below (T1.setTop (mkF m 158 #[.val (.int v0), .val (.int v1), .val (.int v2), .val (.int v3), .val (.int t), .val (.int u1), .val (.int u2), .val (.int k), .val (.int g), .val (.int s1), .val (.int s2), .val (.int s3), .val (.ref o), .val (.long J), .second, .val (.int D), .val (.int g), .val (.int ((((Int32.ofNat (n / 128)).toInt64).toInt32) + g)), .unset, .unset] [(.ref o)])) _
  refine XS.iload X1.here hx rfl (hb hby at_158) rfl ?_
  show Steps p.tables e below (T1.setTop (mkF m 160 #[.val (.int v0), .val (.int v1), .val (.int v2), .val (.int v3), .val (.int t), .val (.int u1), .val (.int u2), .val (.int k), .val (.int g), .val (.int s1), .val (.int s2), .val (.int s3), .val (.ref o), .val (.long J), .second, .val (.int D), .val (.int g), .val (.int ((((Int32.ofNat (n / 128)).toInt64).toInt32) + g)), .unset, .unset] [(.int ((((Int32.ofNat (n / 128)).toInt64).toInt32) + g)), (.ref o)])) _
  refine XS.iload X1.here hx rfl (hb hby at_160) rfl ?_
  show Steps p.tables e below (T1.setTop (mkF m 162 #[.val (.int v0), .val (.int v1), .val (.int v2), .val (.int v3), .val (.int t), .val (.int u1), .val (.int u2), .val (.int k), .val (.int g), .val (.int s1), .val (.int s2), .val (.int s3), .val (.ref o), .val (.long J), .second, .val (.int D), .val (.int g), .val (.int ((((Int32.ofNat (n / 128)).toInt64).toInt32) + g)), .unset, .unset] [(.int s2), (.int ((((Int32.ofNat (n / 128)).toInt64).toInt32) + g)), (.ref o)])) _
  refine XS.i2dS X1.here hx rfl (hb hby at_162) rfl rfl ?_
  show Steps p.tables e below (T1.setTop (mkF m 163 #[.val (.int v0), .val (.int v1), .val (.int v2), .val (.int v3), .val (.int t), .val (.int u1), .val (.int u2), .val (.int k), .val (.int g), .val (.int s1), .val (.int s2), .val (.int s3), .val (.ref o), .val (.long J), .second, .val (.int D), .val (.int g), .val (.int ((((Int32.ofNat (n / 128)).toInt64).toInt32) + g)), .unset, .unset] [(.double (FP.i2d s2)), (.int ((((Int32.ofNat (n / 128)).toInt64).toInt32) + g)), (.ref o)])) _
  refine X1.ldc2DoubleC hx hown (mvT hZ (hw _ (List.mem_of_getElem? (i := 14) rfl))) (g := (mkF m 163 #[.val (.int v0), .val (.int v1), .val (.int v2), .val (.int v3), .val (.int t), .val (.int u1), .val (.int u2), .val (.int k), .val (.int g), .val (.int s1), .val (.int s2), .val (.int s3), .val (.ref o), .val (.long J), .second, .val (.int D), .val (.int g), .val (.int ((((Int32.ofNat (n / 128)).toInt64).toInt32) + g)), .unset, .unset] [(.double (FP.i2d s2)), (.int ((((Int32.ofNat (n / 128)).toInt64).toInt32) + g)), (.ref o)])) rfl (hb hby at_163) _ ?_
  show Steps p.tables e below (T1.setTop (mkF m 166 #[.val (.int v0), .val (.int v1), .val (.int v2), .val (.int v3), .val (.int t), .val (.int u1), .val (.int u2), .val (.int k), .val (.int g), .val (.int s1), .val (.int s2), .val (.int s3), .val (.ref o), .val (.long J), .second, .val (.int D), .val (.int g), .val (.int ((((Int32.ofNat (n / 128)).toInt64).toInt32) + g)), .unset, .unset] [(.double 4598175219545276416), (.double (FP.i2d s2)), (.int ((((Int32.ofNat (n / 128)).toInt64).toInt32) + g)), (.ref o)])) _
  refine XS.dmulS X1.here hx rfl (hb hby at_166) rfl (by rw [hxs]; exact hxn) hxs ?_
  show Steps p.tables e below (T1.setTop (mkF m 167 #[.val (.int v0), .val (.int v1), .val (.int v2), .val (.int v3), .val (.int t), .val (.int u1), .val (.int u2), .val (.int k), .val (.int g), .val (.int s1), .val (.int s2), .val (.int s3), .val (.ref o), .val (.long J), .second, .val (.int D), .val (.int g), .val (.int ((((Int32.ofNat (n / 128)).toInt64).toInt32) + g)), .unset, .unset] [(.double x), (.int ((((Int32.ofNat (n / 128)).toInt64).toInt32) + g)), (.ref o)])) _
  refine st2.trans ?_
  show Steps p.tables e below (T2.setTop (mkF m 170 #[.val (.int v0), .val (.int v1), .val (.int v2), .val (.int v3), .val (.int t), .val (.int u1), .val (.int u2), .val (.int k), .val (.int g), .val (.int s1), .val (.int s2), .val (.int s3), .val (.ref o), .val (.long J), .second, .val (.int D), .val (.int g), .val (.int ((((Int32.ofNat (n / 128)).toInt64).toInt32) + g)), .unset, .unset] [])) _
  refine XS.iload X2.here hx rfl (hb hby at_170) rfl ?_
  show Steps p.tables e below (T2.setTop (mkF m 172 #[.val (.int v0), .val (.int v1), .val (.int v2), .val (.int v3), .val (.int t), .val (.int u1), .val (.int u2), .val (.int k), .val (.int g), .val (.int s1), .val (.int s2), .val (.int s3), .val (.ref o), .val (.long J), .second, .val (.int D), .val (.int g), .val (.int ((((Int32.ofNat (n / 128)).toInt64).toInt32) + g)), .unset, .unset] [(.int g)])) _
  refine XS.ifNo X2.here hx rfl (hb hby at_172) rfl (XT.i0_le_f hg) ?_
  show Steps p.tables e below (T2.setTop (mkF m 175 #[.val (.int v0), .val (.int v1), .val (.int v2), .val (.int v3), .val (.int t), .val (.int u1), .val (.int u2), .val (.int k), .val (.int g), .val (.int s1), .val (.int s2), .val (.int s3), .val (.ref o), .val (.long J), .second, .val (.int D), .val (.int g), .val (.int ((((Int32.ofNat (n / 128)).toInt64).toInt32) + g)), .unset, .unset] [])) _
  refine XS.iload X2.here hx rfl (hb hby at_175) rfl ?_
  show Steps p.tables e below (T2.setTop (mkF m 177 #[.val (.int v0), .val (.int v1), .val (.int v2), .val (.int v3), .val (.int t), .val (.int u1), .val (.int u2), .val (.int k), .val (.int g), .val (.int s1), .val (.int s2), .val (.int s3), .val (.ref o), .val (.long J), .second, .val (.int D), .val (.int g), .val (.int ((((Int32.ofNat (n / 128)).toInt64).toInt32) + g)), .unset, .unset] [(.int ((((Int32.ofNat (n / 128)).toInt64).toInt32) + g))])) _
  refine XT.i2l X2.here hx rfl (hb hby at_177) rfl ?_
  show Steps p.tables e below (T2.setTop (mkF m 178 #[.val (.int v0), .val (.int v1), .val (.int v2), .val (.int v3), .val (.int t), .val (.int u1), .val (.int u2), .val (.int k), .val (.int g), .val (.int s1), .val (.int s2), .val (.int s3), .val (.ref o), .val (.long J), .second, .val (.int D), .val (.int g), .val (.int ((((Int32.ofNat (n / 128)).toInt64).toInt32) + g)), .unset, .unset] [(.long (((((Int32.ofNat (n / 128)).toInt64).toInt32) + g).toInt64))])) _
  refine XT.bipushV X2.here hx rfl 6 (hb hby at_178) (by decide) ?_
  show Steps p.tables e below (T2.setTop (mkF m 180 #[.val (.int v0), .val (.int v1), .val (.int v2), .val (.int v3), .val (.int t), .val (.int u1), .val (.int u2), .val (.int k), .val (.int g), .val (.int s1), .val (.int s2), .val (.int s3), .val (.ref o), .val (.long J), .second, .val (.int D), .val (.int g), .val (.int ((((Int32.ofNat (n / 128)).toInt64).toInt32) + g)), .unset, .unset] [(.int 6), (.long (((((Int32.ofNat (n / 128)).toInt64).toInt32) + g).toInt64))])) _
  refine XT.lshl X2.here hx rfl (hb hby at_180) rfl ?_
  show Steps p.tables e below (T2.setTop (mkF m 181 #[.val (.int v0), .val (.int v1), .val (.int v2), .val (.int v3), .val (.int t), .val (.int u1), .val (.int u2), .val (.int k), .val (.int g), .val (.int s1), .val (.int s2), .val (.int s3), .val (.ref o), .val (.long J), .second, .val (.int D), .val (.int g), .val (.int ((((Int32.ofNat (n / 128)).toInt64).toInt32) + g)), .unset, .unset] [(.long ((((((Int32.ofNat (n / 128)).toInt64).toInt32) + g).toInt64) <<< ((6 : Int32).toInt64 &&& 63)))])) _
  refine XS.goto X2.here hx rfl rfl (hb hby at_181) (show (0 : Int) ≤ ((181 : Nat) : Int) + (13) by decide) (show (((181 : Nat) : Int) + (13)).toNat = 194 by decide) ?_
  show Steps p.tables e below (T2.setTop (mkF m 194 #[.val (.int v0), .val (.int v1), .val (.int v2), .val (.int v3), .val (.int t), .val (.int u1), .val (.int u2), .val (.int k), .val (.int g), .val (.int s1), .val (.int s2), .val (.int s3), .val (.ref o), .val (.long J), .second, .val (.int D), .val (.int g), .val (.int ((((Int32.ofNat (n / 128)).toInt64).toInt32) + g)), .unset, .unset] [(.long ((((((Int32.ofNat (n / 128)).toInt64).toInt32) + g).toInt64) <<< ((6 : Int32).toInt64 &&& 63)))])) _
  refine XT.lstore X2.here hx rfl (hb hby at_194) rfl rfl ?_
  show Steps p.tables e below (T2.setTop (mkF m 196 #[.val (.int v0), .val (.int v1), .val (.int v2), .val (.int v3), .val (.int t), .val (.int u1), .val (.int u2), .val (.int k), .val (.int g), .val (.int s1), .val (.int s2), .val (.int s3), .val (.ref o), .val (.long ((((((Int32.ofNat (n / 128)).toInt64).toInt32) + g).toInt64) <<< ((6 : Int32).toInt64 &&& 63))), .second, .val (.int D), .val (.int g), .val (.int ((((Int32.ofNat (n / 128)).toInt64).toInt32) + g)), .unset, .unset] [])) _
  refine XS.iload X2.here hx rfl (hb hby at_196) rfl ?_
  show Steps p.tables e below (T2.setTop (mkF m 198 #[.val (.int v0), .val (.int v1), .val (.int v2), .val (.int v3), .val (.int t), .val (.int u1), .val (.int u2), .val (.int k), .val (.int g), .val (.int s1), .val (.int s2), .val (.int s3), .val (.ref o), .val (.long ((((((Int32.ofNat (n / 128)).toInt64).toInt32) + g).toInt64) <<< ((6 : Int32).toInt64 &&& 63))), .second, .val (.int D), .val (.int g), .val (.int ((((Int32.ofNat (n / 128)).toInt64).toInt32) + g)), .unset, .unset] [(.int s2)])) _
  refine XS.istore X2.here hx rfl (hb hby at_198) rfl rfl ?_
  show Steps p.tables e below (T2.setTop (mkF m 200 #[.val (.int v0), .val (.int v1), .val (.int v2), .val (.int v3), .val (.int t), .val (.int u1), .val (.int u2), .val (.int k), .val (.int g), .val (.int s1), .val (.int s2), .val (.int s3), .val (.ref o), .val (.long ((((((Int32.ofNat (n / 128)).toInt64).toInt32) + g).toInt64) <<< ((6 : Int32).toInt64 &&& 63))), .second, .val (.int s2), .val (.int g), .val (.int ((((Int32.ofNat (n / 128)).toInt64).toInt32) + g)), .unset, .unset] [])) _
  exact k'
theorem own_lpd5 : parseMethodDescriptor "(II)J" = some ⟨[.int, .int], some .long⟩ := by decide +kernel
set_option maxRecDepth 65536 in
set_option maxHeartbeats 40000000 in
theorem own_s3b (X : Stand p l e room_1 s m args below meth c T locs 1 4) (hx : p.tables.exec = Jvm.exec) (hZ : Z.Warmed39 s.vm) (hw : ∀ d ∈ tables_1, d.before a0 Z = true) (hby : c.code = code) (hml : c.maxLocals = 20) (hown : s.vm.findClass "com/example/herring/herring/sim/FlowCapacitySetCarsPerSecondPinLaw" = some m.cls) (eT : T.heap = h) (N0 : Fr n0 locs) (Z0 : n0 ≤ h.size) (O : Old Z n0 h) (S0 : Sta Z Z.heap "java/lang/StrictMath" "$assertionsDisabled" "Z" (.int 1)) {v0 v1 v2 v3 t u1 u2 k g s1 s2 s3 : Int32}{J : Int64} {D : Int32} {o : Addr} (go : n0 ≤ o) {c1 c2 c3 c4 q st x x2 : UInt64} {n : Nat} (F : own_FC Z h o c1 c2 c3 c4) (hn38 : n + 1 < 2 ^ 37 + 2 ^ 20) (hn126 : n % 128 ≤ 126) (hc1 : cmpValue (FP.dcmp c1 0) .l = 1) (hq : FP.ddiv c3 c1 = q) (hqn : NoNaN64 q) (hr' : FP.dadd c2 q = own_enc n) (hx2n : NoNaN64 x2) (hk : ¬ k < 2) (hxs : FP.dmul (FP.i2d s2) 4598175219545276416 = x) (hxn : NoNaN64 x) (H : ((Int32.ofNat (n / 128)).toInt64 < ((Int32.ofNat (n / 128)).toInt64.toInt32 + g).toInt64 ∧ st = FP.i2d ((Int32.ofNat (n / 128)).toInt64.toInt32 + g) ∧ FP.dadd 0 x = x2) ∨ (¬ (Int32.ofNat (n / 128)).toInt64 < ((Int32.ofNat (n / 128)).toInt64.toInt32 + g).toInt64 ∧ st = c2 ∧ FP.dadd c3 x = x2)) (hk2 : k = 2) (hg : ¬ 0 < g) :
    ∃ T' h' L', Stand p l e room_1 s m args below meth c T' L' 1 4 ∧ T'.heap = h' ∧ Fr n0 L' ∧ n0 ≤ h'.size ∧ Old Z n0 h' ∧ own_FC Z h' o c1 st x2 x ∧ ∀ target, Steps p.tables e below (T'.setTop (mkF m 200 #[.val (.int v0), .val (.int v1), .val (.int v2), .val (.int v3), .val (.int t), .val (.int u1), .val (.int u2), .val (.int k), .val (.int g), .val (.int s1), .val (.int s2), .val (.int s3), .val (.ref o), .val (.long (J + (s1.toInt64 <<< ((6 - u1).toInt64 &&& 63)))), .second, .val (.int s2), .val (.int g), .val (.int ((((Int32.ofNat (n / 128)).toInt64).toInt32) + g)), .unset, .unset] [])) target → Steps p.tables e below (T.setTop (mkF m 125 #[.val (.int v0), .val (.int v1), .val (.int v2), .val (.int v3), .val (.int t), .val (.int u1), .val (.int u2), .val (.int k), .val (.int g), .val (.int s1), .val (.int s2), .val (.int s3), .val (.ref o), .val (.long J), .second, .val (.int D), .unset, .unset, .unset, .unset] [])) target := by
  obtain ⟨cq1, kq1, q1a, q1b, q1c⟩ := isOf hZ eT F.1
  obtain ⟨_, _, ⟨T1, L1, k1, n1⟩, -, X1, ⟨Lc1, hQ1, l1, y1, z1⟩, st1⟩ := X.virtualBack hx (y := (⟨"com/example/herring/herring/sim/FlowCapacity", "nextSecond", "()J"⟩ : MethodName)) (z := (⟨"com/example/herring/herring/sim/FlowCapacity", "nextSecond", "()J"⟩ : MethodName)) hown (mvT hZ (hw _ (List.mem_of_getElem? (i := 78) rfl))) (mvT hZ (hw _ (List.mem_of_getElem? (i := 32) rfl))) (notFace_of_selects (args := #[]) (mvT hZ (hw _ (List.mem_of_getElem? (i := 34) rfl)))) (mvT hZ (hw _ (List.mem_of_getElem? (i := 34) rfl))) (mvT hZ (hw _ (List.mem_of_getElem? (i := 33) rfl))) (by decide) (backOf (W := 0) (own_next l Z a0 hw [] o c1 c2 c3 c4 q n hn38 hn126 hc1 hq hqn hr' h n0 Z0 F (S0.ext O.2)) hZ (hw _ (List.mem_of_getElem? (i := 35) rfl)) (hw _ (List.mem_of_getElem? (i := 3) rfl)) (by decide) (by decide)) q1a q1c (g := (mkF m 147 #[.val (.int v0), .val (.int v1), .val (.int v2), .val (.int v3), .val (.int t), .val (.int u1), .val (.int u2), .val (.int k), .val (.int g), .val (.int s1), .val (.int s2), .val (.int s3), .val (.ref o), .val (.long J), .second, .val (.int D), .val (.int g), .unset, .unset, .unset] [(.ref o)])) rfl (by rw [hml]; rfl) (Steps.refl _) (argsL := []) (rest := []) (lenOf own_lpd4 rfl) rfl (by show 2 * 0 + _ ≤ _; exact Nat.le_of_eq rfl) (hb hby at_147) (fun _ _ => ⟨rfl, eT, (by decide : 1 + 0 ≤ _), (by decide : 4 + 0 ≤ _)⟩)
  dsimp only [Pt.U, Pt.locs, Pt.cells, Pt.slots] at X1 l1 y1 z1 st1 hQ1
  subst l1 y1 z1
  obtain ⟨rfl, N1, e1⟩ := hQ1
  have N1 := Fr.app N0 N1
  obtain ⟨cq2, kq2, q2a, q2b, q2c⟩ := isOf hZ e1 F.1
  obtain ⟨_, _, ⟨T2, L2, k2, n2⟩, -, X2, ⟨Lc2, hQ2, l2, y2, z2⟩, st2⟩ := X1.virtualBack hx (y := (⟨"com/example/herring/herring/sim/FlowCapacity", "count", "(ID)V"⟩ : MethodName)) (z := (⟨"com/example/herring/herring/sim/FlowCapacity", "count", "(ID)V"⟩ : MethodName)) hown (mvT hZ (hw _ (List.mem_of_getElem? (i := 26) rfl))) (mvT hZ (hw _ (List.mem_of_getElem? (i := 27) rfl))) (notFace_of_selects (args := #[]) (mvT hZ (hw _ (List.mem_of_getElem? (i := 29) rfl)))) (mvT hZ (hw _ (List.mem_of_getElem? (i := 29) rfl))) (mvT hZ (hw _ (List.mem_of_getElem? (i := 28) rfl))) (by decide) (backOf (W := 0) (own_countA l Z a0 hw [] o ((Int32.ofNat (n / 128)).toInt64.toInt32 + g) x c1 c2 c3 c4 q n hn38 hn126 hc1 hq hqn hr' st x2 hx2n H h n0 Z0 F go (S0.ext O.2)) hZ (hw _ (List.mem_of_getElem? (i := 30) rfl)) (hw _ (List.mem_of_getElem? (i := 3) rfl)) (by decide) (by decide)) q2a q2c (g := (mkF m 167 #[.val (.int v0), .val (.int v1), .val (.int v2), .val (.int v3), .val (.int t), .val (.int u1), .val (.int u2), .val (.int k), .val (.int g), .val (.int s1), .val (.int s2), .val (.int s3), .val (.ref o), .val (.long J), .second, .val (.int D), .val (.int g), .val (.int ((((Int32.ofNat (n / 128)).toInt64).toInt32) + g)), .unset, .unset] [(.double x), (.int ((((Int32.ofNat (n / 128)).toInt64).toInt32) + g)), (.ref o)])) rfl (by rw [hml]; rfl) (Steps.refl _) (argsL := [(.int ((((Int32.ofNat (n / 128)).toInt64).toInt32) + g)), (.double x)]) (rest := []) (lenOf own_lpd3 rfl) rfl (by show 2 * 0 + _ ≤ _; exact Nat.le_of_eq rfl) (hb hby at_167) (fun _ _ => ⟨rfl, e1, (by decide : 1 + 0 + 0 ≤ _), (by decide : 4 + 0 + 0 ≤ _)⟩)
  dsimp only [Pt.U, Pt.locs, Pt.cells, Pt.slots] at X2 l2 y2 z2 st2 hQ2
  subst l2 y2 z2
  obtain ⟨rfl, N2, K2, F2⟩ := hQ2
  have N2 := Fr.app N1 N2
  have Z2 : n0 ≤ T2.heap.size := Nat.le_trans Z0 K2.1
  have O2 : Old Z n0 T2.heap := O.keep K2 (allS go all0)
  obtain ⟨_, _, ⟨T3, L3, k3, n3⟩, -, X3, ⟨Lc3, hQ3, l3, y3, z3⟩, st3⟩ := Jvm.LawKit.callS X2 hx (y := (⟨"com/example/herring/herring/sim/FlowCapacitySetCarsPerSecondPinLaw", "piece", "(II)J"⟩ : MethodName)) hown (mvT hZ (hw _ (List.mem_of_getElem? (i := 86) rfl))) (mvT hZ (hw _ (List.mem_of_getElem? (i := 87) rfl))) (mvT hZ (hw _ (List.mem_of_getElem? (i := 12) rfl))) (mvT hZ (hw _ (List.mem_of_getElem? (i := 88) rfl))) (by decide) (backOf (W := 2) (own_piece l Z a0 hw [] s1 u1 T2.heap n0 Z2) hZ (hw _ (List.mem_of_getElem? (i := 88) rfl)) (hw _ (List.mem_of_getElem? (i := 12) rfl)) (by decide) (by decide)) (g := (mkF m 190 #[.val (.int v0), .val (.int v1), .val (.int v2), .val (.int v3), .val (.int t), .val (.int u1), .val (.int u2), .val (.int k), .val (.int g), .val (.int s1), .val (.int s2), .val (.int s3), .val (.ref o), .val (.long J), .second, .val (.int D), .val (.int g), .val (.int ((((Int32.ofNat (n / 128)).toInt64).toInt32) + g)), .unset, .unset] [(.int u1), (.int s1), (.long J)])) rfl (by rw [hml]; rfl) (argsL := [(.int s1), (.int u1)]) (rest := [(.long J)]) (lenOf own_lpd5 rfl) rfl (by show 2 * 0 + _ ≤ _; exact Nat.le_of_eq rfl) (hb hby at_190) (fun _ _ => ⟨rfl, rfl, (by decide : 1 + 0 + 0 + 0 ≤ _), (by decide : 4 + 0 + 0 + 0 ≤ _)⟩)
  dsimp only [Pt.U, Pt.locs, Pt.cells, Pt.slots] at X3 l3 y3 z3 st3 hQ3
  subst l3 y3 z3
  obtain ⟨rfl, N3, e3⟩ := hQ3
  have N3 := Fr.app N2 N3
  refine ⟨T3, T2.heap, _, X3, e3, N3, Z2, O2, F2, fun target k' => ?_⟩
  show Steps p.tables e below (T.setTop (mkF m 125 #[.val (.int v0), .val (.int v1), .val (.int v2), .val (.int v3), .val (.int t), .val (.int u1), .val (.int u2), .val (.int k), .val (.int g), .val (.int s1), .val (.int s2), .val (.int s3), .val (.ref o), .val (.long J), .second, .val (.int D), .unset, .unset, .unset, .unset] [])) _
  refine XS.iload X.here hx rfl (hb hby at_125) rfl ?_
  show Steps p.tables e below (T.setTop (mkF m 127 #[.val (.int v0), .val (.int v1), .val (.int v2), .val (.int v3), .val (.int t), .val (.int u1), .val (.int u2), .val (.int k), .val (.int g), .val (.int s1), .val (.int s2), .val (.int s3), .val (.ref o), .val (.long J), .second, .val (.int D), .unset, .unset, .unset, .unset] [(.int k)])) _
  refine XT.iconstV X.here hx rfl 2 (hb hby at_127) rfl ?_
  show Steps p.tables e below (T.setTop (mkF m 128 #[.val (.int v0), .val (.int v1), .val (.int v2), .val (.int v3), .val (.int t), .val (.int u1), .val (.int u2), .val (.int k), .val (.int g), .val (.int s1), .val (.int s2), .val (.int s3), .val (.ref o), .val (.long J), .second, .val (.int D), .unset, .unset, .unset, .unset] [(.int 2), (.int k)])) _
  refine XS.icmpNo X.here hx rfl (hb hby at_128) rfl (XT.ii_lt_f hk) ?_
  show Steps p.tables e below (T.setTop (mkF m 131 #[.val (.int v0), .val (.int v1), .val (.int v2), .val (.int v3), .val (.int t), .val (.int u1), .val (.int u2), .val (.int k), .val (.int g), .val (.int s1), .val (.int s2), .val (.int s3), .val (.ref o), .val (.long J), .second, .val (.int D), .unset, .unset, .unset, .unset] [])) _
  refine XS.iload X.here hx rfl (hb hby at_131) rfl ?_
  show Steps p.tables e below (T.setTop (mkF m 133 #[.val (.int v0), .val (.int v1), .val (.int v2), .val (.int v3), .val (.int t), .val (.int u1), .val (.int u2), .val (.int k), .val (.int g), .val (.int s1), .val (.int s2), .val (.int s3), .val (.ref o), .val (.long J), .second, .val (.int D), .unset, .unset, .unset, .unset] [(.int k)])) _
  refine XT.iconstV X.here hx rfl 2 (hb hby at_133) rfl ?_
  show Steps p.tables e below (T.setTop (mkF m 134 #[.val (.int v0), .val (.int v1), .val (.int v2), .val (.int v3), .val (.int t), .val (.int u1), .val (.int u2), .val (.int k), .val (.int g), .val (.int s1), .val (.int s2), .val (.int s3), .val (.ref o), .val (.long J), .second, .val (.int D), .unset, .unset, .unset, .unset] [(.int 2), (.int k)])) _
  refine XS.icmpNo X.here hx rfl (hb hby at_134) rfl (XT.ii_ne_f hk2) ?_
  show Steps p.tables e below (T.setTop (mkF m 137 #[.val (.int v0), .val (.int v1), .val (.int v2), .val (.int v3), .val (.int t), .val (.int u1), .val (.int u2), .val (.int k), .val (.int g), .val (.int s1), .val (.int s2), .val (.int s3), .val (.ref o), .val (.long J), .second, .val (.int D), .unset, .unset, .unset, .unset] [])) _
  refine XS.iload X.here hx rfl (hb hby at_137) rfl ?_
  show Steps p.tables e below (T.setTop (mkF m 139 #[.val (.int v0), .val (.int v1), .val (.int v2), .val (.int v3), .val (.int t), .val (.int u1), .val (.int u2), .val (.int k), .val (.int g), .val (.int s1), .val (.int s2), .val (.int s3), .val (.ref o), .val (.long J), .second, .val (.int D), .unset, .unset, .unset, .unset] [(.int g)])) _
  refine XS.goto X.here hx rfl rfl (hb hby at_139) (show (0 : Int) ≤ ((139 : Nat) : Int) + (4) by decide) (show (((139 : Nat) : Int) + (4)).toNat = 143 by decide) ?_
  show Steps p.tables e below (T.setTop (mkF m 143 #[.val (.int v0), .val (.int v1), .val (.int v2), .val (.int v3), .val (.int t), .val (.int u1), .val (.int u2), .val (.int k), .val (.int g), .val (.int s1), .val (.int s2), .val (.int s3), .val (.ref o), .val (.long J), .second, .val (.int D), .unset, .unset, .unset, .unset] [(.int g)])) _
  refine XS.istore X.here hx rfl (hb hby at_143) rfl rfl ?_
  show Steps p.tables e below (T.setTop (mkF m 145 #[.val (.int v0), .val (.int v1), .val (.int v2), .val (.int v3), .val (.int t), .val (.int u1), .val (.int u2), .val (.int k), .val (.int g), .val (.int s1), .val (.int s2), .val (.int s3), .val (.ref o), .val (.long J), .second, .val (.int D), .val (.int g), .unset, .unset, .unset] [])) _
  refine XS.aload X.here hx rfl (hb hby at_145) rfl rfl ?_
  show Steps p.tables e below (T.setTop (mkF m 147 #[.val (.int v0), .val (.int v1), .val (.int v2), .val (.int v3), .val (.int t), .val (.int u1), .val (.int u2), .val (.int k), .val (.int g), .val (.int s1), .val (.int s2), .val (.int s3), .val (.ref o), .val (.long J), .second, .val (.int D), .val (.int g), .unset, .unset, .unset] [(.ref o)])) _
  refine st1.trans ?_
  show Steps p.tables e below (T1.setTop (mkF m 150 #[.val (.int v0), .val (.int v1), .val (.int v2), .val (.int v3), .val (.int t), .val (.int u1), .val (.int u2), .val (.int k), .val (.int g), .val (.int s1), .val (.int s2), .val (.int s3), .val (.ref o), .val (.long J), .second, .val (.int D), .val (.int g), .unset, .unset, .unset] [(.long ((Int32.ofNat (n / 128)).toInt64))])) _
  refine XT.l2i X1.here hx rfl (hb hby at_150) rfl ?_
  show Steps p.tables e below (T1.setTop (mkF m 151 #[.val (.int v0), .val (.int v1), .val (.int v2), .val (.int v3), .val (.int t), .val (.int u1), .val (.int u2), .val (.int k), .val (.int g), .val (.int s1), .val (.int s2), .val (.int s3), .val (.ref o), .val (.long J), .second, .val (.int D), .val (.int g), .unset, .unset, .unset] [(.int (((Int32.ofNat (n / 128)).toInt64).toInt32))])) _
  refine XS.iload X1.here hx rfl (hb hby at_151) rfl ?_
  show Steps p.tables e below (T1.setTop (mkF m 153 #[.val (.int v0), .val (.int v1), .val (.int v2), .val (.int v3), .val (.int t), .val (.int u1), .val (.int u2), .val (.int k), .val (.int g), .val (.int s1), .val (.int s2), .val (.int s3), .val (.ref o), .val (.long J), .second, .val (.int D), .val (.int g), .unset, .unset, .unset] [(.int g), (.int (((Int32.ofNat (n / 128)).toInt64).toInt32))])) _
  refine XS.iadd X1.here hx rfl (hb hby at_153) rfl ?_
  show Steps p.tables e below (T1.setTop (mkF m 154 #[.val (.int v0), .val (.int v1), .val (.int v2), .val (.int v3), .val (.int t), .val (.int u1), .val (.int u2), .val (.int k), .val (.int g), .val (.int s1), .val (.int s2), .val (.int s3), .val (.ref o), .val (.long J), .second, .val (.int D), .val (.int g), .unset, .unset, .unset] [(.int ((((Int32.ofNat (n / 128)).toInt64).toInt32) + g))])) _
  refine XS.istore X1.here hx rfl (hb hby at_154) rfl rfl ?_
  show Steps p.tables e below (T1.setTop (mkF m 156 #[.val (.int v0), .val (.int v1), .val (.int v2), .val (.int v3), .val (.int t), .val (.int u1), .val (.int u2), .val (.int k), .val (.int g), .val (.int s1), .val (.int s2), .val (.int s3), .val (.ref o), .val (.long J), .second, .val (.int D), .val (.int g), .val (.int ((((Int32.ofNat (n / 128)).toInt64).toInt32) + g)), .unset, .unset] [])) _
  refine XS.aload X1.here hx rfl (hb hby at_156) rfl rfl ?_
  show Steps p.tables e below (T1.setTop (mkF m 158 #[.val (.int v0), .val (.int v1), .val (.int v2), .val (.int v3), .val (.int t), .val (.int u1), .val (.int u2), .val (.int k), .val (.int g), .val (.int s1), .val (.int s2), .val (.int s3), .val (.ref o), .val (.long J), .second, .val (.int D), .val (.int g), .val (.int ((((Int32.ofNat (n / 128)).toInt64).toInt32) + g)), .unset, .unset] [(.ref o)])) _
  refine XS.iload X1.here hx rfl (hb hby at_158) rfl ?_
  show Steps p.tables e below (T1.setTop (mkF m 160 #[.val (.int v0), .val (.int v1), .val (.int v2), .val (.int v3), .val (.int t), .val (.int u1), .val (.int u2), .val (.int k), .val (.int g), .val (.int s1), .val (.int s2), .val (.int s3), .val (.ref o), .val (.long J), .second, .val (.int D), .val (.int g), .val (.int ((((Int32.ofNat (n / 128)).toInt64).toInt32) + g)), .unset, .unset] [(.int ((((Int32.ofNat (n / 128)).toInt64).toInt32) + g)), (.ref o)])) _
  refine XS.iload X1.here hx rfl (hb hby at_160) rfl ?_
  show Steps p.tables e below (T1.setTop (mkF m 162 #[.val (.int v0), .val (.int v1), .val (.int v2), .val (.int v3), .val (.int t), .val (.int u1), .val (.int u2), .val (.int k), .val (.int g), .val (.int s1), .val (.int s2), .val (.int s3), .val (.ref o), .val (.long J), .second, .val (.int D), .val (.int g), .val (.int ((((Int32.ofNat (n / 128)).toInt64).toInt32) + g)), .unset, .unset] [(.int s2), (.int ((((Int32.ofNat (n / 128)).toInt64).toInt32) + g)), (.ref o)])) _
  refine XS.i2dS X1.here hx rfl (hb hby at_162) rfl rfl ?_
  show Steps p.tables e below (T1.setTop (mkF m 163 #[.val (.int v0), .val (.int v1), .val (.int v2), .val (.int v3), .val (.int t), .val (.int u1), .val (.int u2), .val (.int k), .val (.int g), .val (.int s1), .val (.int s2), .val (.int s3), .val (.ref o), .val (.long J), .second, .val (.int D), .val (.int g), .val (.int ((((Int32.ofNat (n / 128)).toInt64).toInt32) + g)), .unset, .unset] [(.double (FP.i2d s2)), (.int ((((Int32.ofNat (n / 128)).toInt64).toInt32) + g)), (.ref o)])) _
  refine X1.ldc2DoubleC hx hown (mvT hZ (hw _ (List.mem_of_getElem? (i := 14) rfl))) (g := (mkF m 163 #[.val (.int v0), .val (.int v1), .val (.int v2), .val (.int v3), .val (.int t), .val (.int u1), .val (.int u2), .val (.int k), .val (.int g), .val (.int s1), .val (.int s2), .val (.int s3), .val (.ref o), .val (.long J), .second, .val (.int D), .val (.int g), .val (.int ((((Int32.ofNat (n / 128)).toInt64).toInt32) + g)), .unset, .unset] [(.double (FP.i2d s2)), (.int ((((Int32.ofNat (n / 128)).toInt64).toInt32) + g)), (.ref o)])) rfl (hb hby at_163) _ ?_
  show Steps p.tables e below (T1.setTop (mkF m 166 #[.val (.int v0), .val (.int v1), .val (.int v2), .val (.int v3), .val (.int t), .val (.int u1), .val (.int u2), .val (.int k), .val (.int g), .val (.int s1), .val (.int s2), .val (.int s3), .val (.ref o), .val (.long J), .second, .val (.int D), .val (.int g), .val (.int ((((Int32.ofNat (n / 128)).toInt64).toInt32) + g)), .unset, .unset] [(.double 4598175219545276416), (.double (FP.i2d s2)), (.int ((((Int32.ofNat (n / 128)).toInt64).toInt32) + g)), (.ref o)])) _
  refine XS.dmulS X1.here hx rfl (hb hby at_166) rfl (by rw [hxs]; exact hxn) hxs ?_
  show Steps p.tables e below (T1.setTop (mkF m 167 #[.val (.int v0), .val (.int v1), .val (.int v2), .val (.int v3), .val (.int t), .val (.int u1), .val (.int u2), .val (.int k), .val (.int g), .val (.int s1), .val (.int s2), .val (.int s3), .val (.ref o), .val (.long J), .second, .val (.int D), .val (.int g), .val (.int ((((Int32.ofNat (n / 128)).toInt64).toInt32) + g)), .unset, .unset] [(.double x), (.int ((((Int32.ofNat (n / 128)).toInt64).toInt32) + g)), (.ref o)])) _
  refine st2.trans ?_
  show Steps p.tables e below (T2.setTop (mkF m 170 #[.val (.int v0), .val (.int v1), .val (.int v2), .val (.int v3), .val (.int t), .val (.int u1), .val (.int u2), .val (.int k), .val (.int g), .val (.int s1), .val (.int s2), .val (.int s3), .val (.ref o), .val (.long J), .second, .val (.int D), .val (.int g), .val (.int ((((Int32.ofNat (n / 128)).toInt64).toInt32) + g)), .unset, .unset] [])) _
  refine XS.iload X2.here hx rfl (hb hby at_170) rfl ?_
  show Steps p.tables e below (T2.setTop (mkF m 172 #[.val (.int v0), .val (.int v1), .val (.int v2), .val (.int v3), .val (.int t), .val (.int u1), .val (.int u2), .val (.int k), .val (.int g), .val (.int s1), .val (.int s2), .val (.int s3), .val (.ref o), .val (.long J), .second, .val (.int D), .val (.int g), .val (.int ((((Int32.ofNat (n / 128)).toInt64).toInt32) + g)), .unset, .unset] [(.int g)])) _
  refine XS.ifYes X2.here hx rfl rfl (hb hby at_172) rfl (XT.i0_le_t hg) (show (0 : Int) ≤ ((172 : Nat) : Int) + (12) by decide) (show (((172 : Nat) : Int) + (12)).toNat = 184 by decide) ?_
  show Steps p.tables e below (T2.setTop (mkF m 184 #[.val (.int v0), .val (.int v1), .val (.int v2), .val (.int v3), .val (.int t), .val (.int u1), .val (.int u2), .val (.int k), .val (.int g), .val (.int s1), .val (.int s2), .val (.int s3), .val (.ref o), .val (.long J), .second, .val (.int D), .val (.int g), .val (.int ((((Int32.ofNat (n / 128)).toInt64).toInt32) + g)), .unset, .unset] [])) _
  refine XT.lload X2.here hx rfl (hb hby at_184) rfl ?_
  show Steps p.tables e below (T2.setTop (mkF m 186 #[.val (.int v0), .val (.int v1), .val (.int v2), .val (.int v3), .val (.int t), .val (.int u1), .val (.int u2), .val (.int k), .val (.int g), .val (.int s1), .val (.int s2), .val (.int s3), .val (.ref o), .val (.long J), .second, .val (.int D), .val (.int g), .val (.int ((((Int32.ofNat (n / 128)).toInt64).toInt32) + g)), .unset, .unset] [(.long J)])) _
  refine XS.iload X2.here hx rfl (hb hby at_186) rfl ?_
  show Steps p.tables e below (T2.setTop (mkF m 188 #[.val (.int v0), .val (.int v1), .val (.int v2), .val (.int v3), .val (.int t), .val (.int u1), .val (.int u2), .val (.int k), .val (.int g), .val (.int s1), .val (.int s2), .val (.int s3), .val (.ref o), .val (.long J), .second, .val (.int D), .val (.int g), .val (.int ((((Int32.ofNat (n / 128)).toInt64).toInt32) + g)), .unset, .unset] [(.int s1), (.long J)])) _
  refine XS.iload X2.here hx rfl (hb hby at_188) rfl ?_
  show Steps p.tables e below (T2.setTop (mkF m 190 #[.val (.int v0), .val (.int v1), .val (.int v2), .val (.int v3), .val (.int t), .val (.int u1), .val (.int u2), .val (.int k), .val (.int g), .val (.int s1), .val (.int s2), .val (.int s3), .val (.ref o), .val (.long J), .second, .val (.int D), .val (.int g), .val (.int ((((Int32.ofNat (n / 128)).toInt64).toInt32) + g)), .unset, .unset] [(.int u1), (.int s1), (.long J)])) _
  refine st3 _ ?_
  show Steps p.tables e below (T3.setTop (mkF m 193 #[.val (.int v0), .val (.int v1), .val (.int v2), .val (.int v3), .val (.int t), .val (.int u1), .val (.int u2), .val (.int k), .val (.int g), .val (.int s1), .val (.int s2), .val (.int s3), .val (.ref o), .val (.long J), .second, .val (.int D), .val (.int g), .val (.int ((((Int32.ofNat (n / 128)).toInt64).toInt32) + g)), .unset, .unset] [(.long (s1.toInt64 <<< ((6 - u1).toInt64 &&& 63))), (.long J)])) _
  refine XT.ladd X3.here hx rfl (hb hby at_193) rfl ?_
  show Steps p.tables e below (T3.setTop (mkF m 194 #[.val (.int v0), .val (.int v1), .val (.int v2), .val (.int v3), .val (.int t), .val (.int u1), .val (.int u2), .val (.int k), .val (.int g), .val (.int s1), .val (.int s2), .val (.int s3), .val (.ref o), .val (.long J), .second, .val (.int D), .val (.int g), .val (.int ((((Int32.ofNat (n / 128)).toInt64).toInt32) + g)), .unset, .unset] [(.long (J + (s1.toInt64 <<< ((6 - u1).toInt64 &&& 63))))])) _
  refine XT.lstore X3.here hx rfl (hb hby at_194) rfl rfl ?_
  show Steps p.tables e below (T3.setTop (mkF m 196 #[.val (.int v0), .val (.int v1), .val (.int v2), .val (.int v3), .val (.int t), .val (.int u1), .val (.int u2), .val (.int k), .val (.int g), .val (.int s1), .val (.int s2), .val (.int s3), .val (.ref o), .val (.long (J + (s1.toInt64 <<< ((6 - u1).toInt64 &&& 63)))), .second, .val (.int D), .val (.int g), .val (.int ((((Int32.ofNat (n / 128)).toInt64).toInt32) + g)), .unset, .unset] [])) _
  refine XS.iload X3.here hx rfl (hb hby at_196) rfl ?_
  show Steps p.tables e below (T3.setTop (mkF m 198 #[.val (.int v0), .val (.int v1), .val (.int v2), .val (.int v3), .val (.int t), .val (.int u1), .val (.int u2), .val (.int k), .val (.int g), .val (.int s1), .val (.int s2), .val (.int s3), .val (.ref o), .val (.long (J + (s1.toInt64 <<< ((6 - u1).toInt64 &&& 63)))), .second, .val (.int D), .val (.int g), .val (.int ((((Int32.ofNat (n / 128)).toInt64).toInt32) + g)), .unset, .unset] [(.int s2)])) _
  refine XS.istore X3.here hx rfl (hb hby at_198) rfl rfl ?_
  show Steps p.tables e below (T3.setTop (mkF m 200 #[.val (.int v0), .val (.int v1), .val (.int v2), .val (.int v3), .val (.int t), .val (.int u1), .val (.int u2), .val (.int k), .val (.int g), .val (.int s1), .val (.int s2), .val (.int s3), .val (.ref o), .val (.long (J + (s1.toInt64 <<< ((6 - u1).toInt64 &&& 63)))), .second, .val (.int s2), .val (.int g), .val (.int ((((Int32.ofNat (n / 128)).toInt64).toInt32) + g)), .unset, .unset] [])) _
  exact k'
set_option maxRecDepth 65536 in
set_option maxHeartbeats 40000000 in
theorem own_s3c (X : Stand p l e room_1 s m args below meth c T locs 1 4) (hx : p.tables.exec = Jvm.exec) (hZ : Z.Warmed39 s.vm) (hw : ∀ d ∈ tables_1, d.before a0 Z = true) (hby : c.code = code) (hml : c.maxLocals = 20) (hown : s.vm.findClass "com/example/herring/herring/sim/FlowCapacitySetCarsPerSecondPinLaw" = some m.cls) (eT : T.heap = h) (N0 : Fr n0 locs) (Z0 : n0 ≤ h.size) (O : Old Z n0 h) (S0 : Sta Z Z.heap "java/lang/StrictMath" "$assertionsDisabled" "Z" (.int 1)) {v0 v1 v2 v3 t u1 u2 k g s1 s2 s3 : Int32}{J : Int64} {D : Int32} {o : Addr} (go : n0 ≤ o) {c1 c2 c3 c4 q st x x2 : UInt64} {n : Nat} (F : own_FC Z h o c1 c2 c3 c4) (hn38 : n + 1 < 2 ^ 37 + 2 ^ 20) (hn126 : n % 128 ≤ 126) (hc1 : cmpValue (FP.dcmp c1 0) .l = 1) (hq : FP.ddiv c3 c1 = q) (hqn : NoNaN64 q) (hr' : FP.dadd c2 q = own_enc n) (hx2n : NoNaN64 x2) (hk : ¬ k < 2) (hxs : FP.dmul (FP.i2d s2) 4598175219545276416 = x) (hxn : NoNaN64 x) (H : ((Int32.ofNat (n / 128)).toInt64 < ((Int32.ofNat (n / 128)).toInt64.toInt32 + 0).toInt64 ∧ st = FP.i2d ((Int32.ofNat (n / 128)).toInt64.toInt32 + 0) ∧ FP.dadd 0 x = x2) ∨ (¬ (Int32.ofNat (n / 128)).toInt64 < ((Int32.ofNat (n / 128)).toInt64.toInt32 + 0).toInt64 ∧ st = c2 ∧ FP.dadd c3 x = x2)) (hk2 : ¬ k = 2) :
    ∃ T' h' L', Stand p l e room_1 s m args below meth c T' L' 1 4 ∧ T'.heap = h' ∧ Fr n0 L' ∧ n0 ≤ h'.size ∧ Old Z n0 h' ∧ own_FC Z h' o c1 st x2 x ∧ ∀ target, Steps p.tables e below (T'.setTop (mkF m 200 #[.val (.int v0), .val (.int v1), .val (.int v2), .val (.int v3), .val (.int t), .val (.int u1), .val (.int u2), .val (.int k), .val (.int g), .val (.int s1), .val (.int s2), .val (.int s3), .val (.ref o), .val (.long (J + (s1.toInt64 <<< ((6 - u1).toInt64 &&& 63)))), .second, .val (.int s2), .val (.int 0), .val (.int ((((Int32.ofNat (n / 128)).toInt64).toInt32) + 0)), .unset, .unset] [])) target → Steps p.tables e below (T.setTop (mkF m 125 #[.val (.int v0), .val (.int v1), .val (.int v2), .val (.int v3), .val (.int t), .val (.int u1), .val (.int u2), .val (.int k), .val (.int g), .val (.int s1), .val (.int s2), .val (.int s3), .val (.ref o), .val (.long J), .second, .val (.int D), .unset, .unset, .unset, .unset] [])) target := by
  obtain ⟨cq1, kq1, q1a, q1b, q1c⟩ := isOf hZ eT F.1
  obtain ⟨_, _, ⟨T1, L1, k1, n1⟩, -, X1, ⟨Lc1, hQ1, l1, y1, z1⟩, st1⟩ := X.virtualBack hx (y := (⟨"com/example/herring/herring/sim/FlowCapacity", "nextSecond", "()J"⟩ : MethodName)) (z := (⟨"com/example/herring/herring/sim/FlowCapacity", "nextSecond", "()J"⟩ : MethodName)) hown (mvT hZ (hw _ (List.mem_of_getElem? (i := 78) rfl))) (mvT hZ (hw _ (List.mem_of_getElem? (i := 32) rfl))) (notFace_of_selects (args := #[]) (mvT hZ (hw _ (List.mem_of_getElem? (i := 34) rfl)))) (mvT hZ (hw _ (List.mem_of_getElem? (i := 34) rfl))) (mvT hZ (hw _ (List.mem_of_getElem? (i := 33) rfl))) (by decide) (backOf (W := 0) (own_next l Z a0 hw [] o c1 c2 c3 c4 q n hn38 hn126 hc1 hq hqn hr' h n0 Z0 F (S0.ext O.2)) hZ (hw _ (List.mem_of_getElem? (i := 35) rfl)) (hw _ (List.mem_of_getElem? (i := 3) rfl)) (by decide) (by decide)) q1a q1c (g := (mkF m 147 #[.val (.int v0), .val (.int v1), .val (.int v2), .val (.int v3), .val (.int t), .val (.int u1), .val (.int u2), .val (.int k), .val (.int g), .val (.int s1), .val (.int s2), .val (.int s3), .val (.ref o), .val (.long J), .second, .val (.int D), .val (.int 0), .unset, .unset, .unset] [(.ref o)])) rfl (by rw [hml]; rfl) (Steps.refl _) (argsL := []) (rest := []) (lenOf own_lpd4 rfl) rfl (by show 2 * 0 + _ ≤ _; exact Nat.le_of_eq rfl) (hb hby at_147) (fun _ _ => ⟨rfl, eT, (by decide : 1 + 0 ≤ _), (by decide : 4 + 0 ≤ _)⟩)
  dsimp only [Pt.U, Pt.locs, Pt.cells, Pt.slots] at X1 l1 y1 z1 st1 hQ1
  subst l1 y1 z1
  obtain ⟨rfl, N1, e1⟩ := hQ1
  have N1 := Fr.app N0 N1
  obtain ⟨cq2, kq2, q2a, q2b, q2c⟩ := isOf hZ e1 F.1
  obtain ⟨_, _, ⟨T2, L2, k2, n2⟩, -, X2, ⟨Lc2, hQ2, l2, y2, z2⟩, st2⟩ := X1.virtualBack hx (y := (⟨"com/example/herring/herring/sim/FlowCapacity", "count", "(ID)V"⟩ : MethodName)) (z := (⟨"com/example/herring/herring/sim/FlowCapacity", "count", "(ID)V"⟩ : MethodName)) hown (mvT hZ (hw _ (List.mem_of_getElem? (i := 26) rfl))) (mvT hZ (hw _ (List.mem_of_getElem? (i := 27) rfl))) (notFace_of_selects (args := #[]) (mvT hZ (hw _ (List.mem_of_getElem? (i := 29) rfl)))) (mvT hZ (hw _ (List.mem_of_getElem? (i := 29) rfl))) (mvT hZ (hw _ (List.mem_of_getElem? (i := 28) rfl))) (by decide) (backOf (W := 0) (own_countA l Z a0 hw [] o ((Int32.ofNat (n / 128)).toInt64.toInt32 + 0) x c1 c2 c3 c4 q n hn38 hn126 hc1 hq hqn hr' st x2 hx2n H h n0 Z0 F go (S0.ext O.2)) hZ (hw _ (List.mem_of_getElem? (i := 30) rfl)) (hw _ (List.mem_of_getElem? (i := 3) rfl)) (by decide) (by decide)) q2a q2c (g := (mkF m 167 #[.val (.int v0), .val (.int v1), .val (.int v2), .val (.int v3), .val (.int t), .val (.int u1), .val (.int u2), .val (.int k), .val (.int g), .val (.int s1), .val (.int s2), .val (.int s3), .val (.ref o), .val (.long J), .second, .val (.int D), .val (.int 0), .val (.int ((((Int32.ofNat (n / 128)).toInt64).toInt32) + 0)), .unset, .unset] [(.double x), (.int ((((Int32.ofNat (n / 128)).toInt64).toInt32) + 0)), (.ref o)])) rfl (by rw [hml]; rfl) (Steps.refl _) (argsL := [(.int ((((Int32.ofNat (n / 128)).toInt64).toInt32) + 0)), (.double x)]) (rest := []) (lenOf own_lpd3 rfl) rfl (by show 2 * 0 + _ ≤ _; exact Nat.le_of_eq rfl) (hb hby at_167) (fun _ _ => ⟨rfl, e1, (by decide : 1 + 0 + 0 ≤ _), (by decide : 4 + 0 + 0 ≤ _)⟩)
  dsimp only [Pt.U, Pt.locs, Pt.cells, Pt.slots] at X2 l2 y2 z2 st2 hQ2
  subst l2 y2 z2
  obtain ⟨rfl, N2, K2, F2⟩ := hQ2
  have N2 := Fr.app N1 N2
  have Z2 : n0 ≤ T2.heap.size := Nat.le_trans Z0 K2.1
  have O2 : Old Z n0 T2.heap := O.keep K2 (allS go all0)
  obtain ⟨_, _, ⟨T3, L3, k3, n3⟩, -, X3, ⟨Lc3, hQ3, l3, y3, z3⟩, st3⟩ := Jvm.LawKit.callS X2 hx (y := (⟨"com/example/herring/herring/sim/FlowCapacitySetCarsPerSecondPinLaw", "piece", "(II)J"⟩ : MethodName)) hown (mvT hZ (hw _ (List.mem_of_getElem? (i := 86) rfl))) (mvT hZ (hw _ (List.mem_of_getElem? (i := 87) rfl))) (mvT hZ (hw _ (List.mem_of_getElem? (i := 12) rfl))) (mvT hZ (hw _ (List.mem_of_getElem? (i := 88) rfl))) (by decide) (backOf (W := 2) (own_piece l Z a0 hw [] s1 u1 T2.heap n0 Z2) hZ (hw _ (List.mem_of_getElem? (i := 88) rfl)) (hw _ (List.mem_of_getElem? (i := 12) rfl)) (by decide) (by decide)) (g := (mkF m 190 #[.val (.int v0), .val (.int v1), .val (.int v2), .val (.int v3), .val (.int t), .val (.int u1), .val (.int u2), .val (.int k), .val (.int g), .val (.int s1), .val (.int s2), .val (.int s3), .val (.ref o), .val (.long J), .second, .val (.int D), .val (.int 0), .val (.int ((((Int32.ofNat (n / 128)).toInt64).toInt32) + 0)), .unset, .unset] [(.int u1), (.int s1), (.long J)])) rfl (by rw [hml]; rfl) (argsL := [(.int s1), (.int u1)]) (rest := [(.long J)]) (lenOf own_lpd5 rfl) rfl (by show 2 * 0 + _ ≤ _; exact Nat.le_of_eq rfl) (hb hby at_190) (fun _ _ => ⟨rfl, rfl, (by decide : 1 + 0 + 0 + 0 ≤ _), (by decide : 4 + 0 + 0 + 0 ≤ _)⟩)
  dsimp only [Pt.U, Pt.locs, Pt.cells, Pt.slots] at X3 l3 y3 z3 st3 hQ3
  subst l3 y3 z3
  obtain ⟨rfl, N3, e3⟩ := hQ3
  have N3 := Fr.app N2 N3
  refine ⟨T3, T2.heap, _, X3, e3, N3, Z2, O2, F2, fun target k' => ?_⟩
  show Steps p.tables e below (T.setTop (mkF m 125 #[.val (.int v0), .val (.int v1), .val (.int v2), .val (.int v3), .val (.int t), .val (.int u1), .val (.int u2), .val (.int k), .val (.int g), .val (.int s1), .val (.int s2), .val (.int s3), .val (.ref o), .val (.long J), .second, .val (.int D), .unset, .unset, .unset, .unset] [])) _
  refine XS.iload X.here hx rfl (hb hby at_125) rfl ?_
  show Steps p.tables e below (T.setTop (mkF m 127 #[.val (.int v0), .val (.int v1), .val (.int v2), .val (.int v3), .val (.int t), .val (.int u1), .val (.int u2), .val (.int k), .val (.int g), .val (.int s1), .val (.int s2), .val (.int s3), .val (.ref o), .val (.long J), .second, .val (.int D), .unset, .unset, .unset, .unset] [(.int k)])) _
  refine XT.iconstV X.here hx rfl 2 (hb hby at_127) rfl ?_
  show Steps p.tables e below (T.setTop (mkF m 128 #[.val (.int v0), .val (.int v1), .val (.int v2), .val (.int v3), .val (.int t), .val (.int u1), .val (.int u2), .val (.int k), .val (.int g), .val (.int s1), .val (.int s2), .val (.int s3), .val (.ref o), .val (.long J), .second, .val (.int D), .unset, .unset, .unset, .unset] [(.int 2), (.int k)])) _
  refine XS.icmpNo X.here hx rfl (hb hby at_128) rfl (XT.ii_lt_f hk) ?_
  show Steps p.tables e below (T.setTop (mkF m 131 #[.val (.int v0), .val (.int v1), .val (.int v2), .val (.int v3), .val (.int t), .val (.int u1), .val (.int u2), .val (.int k), .val (.int g), .val (.int s1), .val (.int s2), .val (.int s3), .val (.ref o), .val (.long J), .second, .val (.int D), .unset, .unset, .unset, .unset] [])) _
  refine XS.iload X.here hx rfl (hb hby at_131) rfl ?_
  show Steps p.tables e below (T.setTop (mkF m 133 #[.val (.int v0), .val (.int v1), .val (.int v2), .val (.int v3), .val (.int t), .val (.int u1), .val (.int u2), .val (.int k), .val (.int g), .val (.int s1), .val (.int s2), .val (.int s3), .val (.ref o), .val (.long J), .second, .val (.int D), .unset, .unset, .unset, .unset] [(.int k)])) _
  refine XT.iconstV X.here hx rfl 2 (hb hby at_133) rfl ?_
  show Steps p.tables e below (T.setTop (mkF m 134 #[.val (.int v0), .val (.int v1), .val (.int v2), .val (.int v3), .val (.int t), .val (.int u1), .val (.int u2), .val (.int k), .val (.int g), .val (.int s1), .val (.int s2), .val (.int s3), .val (.ref o), .val (.long J), .second, .val (.int D), .unset, .unset, .unset, .unset] [(.int 2), (.int k)])) _
  refine XS.icmpYes X.here hx rfl rfl (hb hby at_134) rfl (XT.ii_ne_t hk2) (show (0 : Int) ≤ ((134 : Nat) : Int) + (8) by decide) (show (((134 : Nat) : Int) + (8)).toNat = 142 by decide) ?_
  show Steps p.tables e below (T.setTop (mkF m 142 #[.val (.int v0), .val (.int v1), .val (.int v2), .val (.int v3), .val (.int t), .val (.int u1), .val (.int u2), .val (.int k), .val (.int g), .val (.int s1), .val (.int s2), .val (.int s3), .val (.ref o), .val (.long J), .second, .val (.int D), .unset, .unset, .unset, .unset] [])) _
  refine XT.iconstV X.here hx rfl 0 (hb hby at_142) rfl ?_
  show Steps p.tables e below (T.setTop (mkF m 143 #[.val (.int v0), .val (.int v1), .val (.int v2), .val (.int v3), .val (.int t), .val (.int u1), .val (.int u2), .val (.int k), .val (.int g), .val (.int s1), .val (.int s2), .val (.int s3), .val (.ref o), .val (.long J), .second, .val (.int D), .unset, .unset, .unset, .unset] [(.int 0)])) _
  refine XS.istore X.here hx rfl (hb hby at_143) rfl rfl ?_
  show Steps p.tables e below (T.setTop (mkF m 145 #[.val (.int v0), .val (.int v1), .val (.int v2), .val (.int v3), .val (.int t), .val (.int u1), .val (.int u2), .val (.int k), .val (.int g), .val (.int s1), .val (.int s2), .val (.int s3), .val (.ref o), .val (.long J), .second, .val (.int D), .val (.int 0), .unset, .unset, .unset] [])) _
  refine XS.aload X.here hx rfl (hb hby at_145) rfl rfl ?_
  show Steps p.tables e below (T.setTop (mkF m 147 #[.val (.int v0), .val (.int v1), .val (.int v2), .val (.int v3), .val (.int t), .val (.int u1), .val (.int u2), .val (.int k), .val (.int g), .val (.int s1), .val (.int s2), .val (.int s3), .val (.ref o), .val (.long J), .second, .val (.int D), .val (.int 0), .unset, .unset, .unset] [(.ref o)])) _
  refine st1.trans ?_
  show Steps p.tables e below (T1.setTop (mkF m 150 #[.val (.int v0), .val (.int v1), .val (.int v2), .val (.int v3), .val (.int t), .val (.int u1), .val (.int u2), .val (.int k), .val (.int g), .val (.int s1), .val (.int s2), .val (.int s3), .val (.ref o), .val (.long J), .second, .val (.int D), .val (.int 0), .unset, .unset, .unset] [(.long ((Int32.ofNat (n / 128)).toInt64))])) _
  refine XT.l2i X1.here hx rfl (hb hby at_150) rfl ?_
  show Steps p.tables e below (T1.setTop (mkF m 151 #[.val (.int v0), .val (.int v1), .val (.int v2), .val (.int v3), .val (.int t), .val (.int u1), .val (.int u2), .val (.int k), .val (.int g), .val (.int s1), .val (.int s2), .val (.int s3), .val (.ref o), .val (.long J), .second, .val (.int D), .val (.int 0), .unset, .unset, .unset] [(.int (((Int32.ofNat (n / 128)).toInt64).toInt32))])) _
  refine XS.iload X1.here hx rfl (hb hby at_151) rfl ?_
  show Steps p.tables e below (T1.setTop (mkF m 153 #[.val (.int v0), .val (.int v1), .val (.int v2), .val (.int v3), .val (.int t), .val (.int u1), .val (.int u2), .val (.int k), .val (.int g), .val (.int s1), .val (.int s2), .val (.int s3), .val (.ref o), .val (.long J), .second, .val (.int D), .val (.int 0), .unset, .unset, .unset] [(.int 0), (.int (((Int32.ofNat (n / 128)).toInt64).toInt32))])) _
  refine XS.iadd X1.here hx rfl (hb hby at_153) rfl ?_
  show Steps p.tables e below (T1.setTop (mkF m 154 #[.val (.int v0), .val (.int v1), .val (.int v2), .val (.int v3), .val (.int t), .val (.int u1), .val (.int u2), .val (.int k), .val (.int g), .val (.int s1), .val (.int s2), .val (.int s3), .val (.ref o), .val (.long J), .second, .val (.int D), .val (.int 0), .unset, .unset, .unset] [(.int ((((Int32.ofNat (n / 128)).toInt64).toInt32) + 0))])) _
  refine XS.istore X1.here hx rfl (hb hby at_154) rfl rfl ?_
  show Steps p.tables e below (T1.setTop (mkF m 156 #[.val (.int v0), .val (.int v1), .val (.int v2), .val (.int v3), .val (.int t), .val (.int u1), .val (.int u2), .val (.int k), .val (.int g), .val (.int s1), .val (.int s2), .val (.int s3), .val (.ref o), .val (.long J), .second, .val (.int D), .val (.int 0), .val (.int ((((Int32.ofNat (n / 128)).toInt64).toInt32) + 0)), .unset, .unset] [])) _
  refine XS.aload X1.here hx rfl (hb hby at_156) rfl rfl ?_
  show Steps p.tables e below (T1.setTop (mkF m 158 #[.val (.int v0), .val (.int v1), .val (.int v2), .val (.int v3), .val (.int t), .val (.int u1), .val (.int u2), .val (.int k), .val (.int g), .val (.int s1), .val (.int s2), .val (.int s3), .val (.ref o), .val (.long J), .second, .val (.int D), .val (.int 0), .val (.int ((((Int32.ofNat (n / 128)).toInt64).toInt32) + 0)), .unset, .unset] [(.ref o)])) _
  refine XS.iload X1.here hx rfl (hb hby at_158) rfl ?_
  show Steps p.tables e below (T1.setTop (mkF m 160 #[.val (.int v0), .val (.int v1), .val (.int v2), .val (.int v3), .val (.int t), .val (.int u1), .val (.int u2), .val (.int k), .val (.int g), .val (.int s1), .val (.int s2), .val (.int s3), .val (.ref o), .val (.long J), .second, .val (.int D), .val (.int 0), .val (.int ((((Int32.ofNat (n / 128)).toInt64).toInt32) + 0)), .unset, .unset] [(.int ((((Int32.ofNat (n / 128)).toInt64).toInt32) + 0)), (.ref o)])) _
  refine XS.iload X1.here hx rfl (hb hby at_160) rfl ?_
  show Steps p.tables e below (T1.setTop (mkF m 162 #[.val (.int v0), .val (.int v1), .val (.int v2), .val (.int v3), .val (.int t), .val (.int u1), .val (.int u2), .val (.int k), .val (.int g), .val (.int s1), .val (.int s2), .val (.int s3), .val (.ref o), .val (.long J), .second, .val (.int D), .val (.int 0), .val (.int ((((Int32.ofNat (n / 128)).toInt64).toInt32) + 0)), .unset, .unset] [(.int s2), (.int ((((Int32.ofNat (n / 128)).toInt64).toInt32) + 0)), (.ref o)])) _
  refine XS.i2dS X1.here hx rfl (hb hby at_162) rfl rfl ?_
  show Steps p.tables e below (T1.setTop (mkF m 163 #[.val (.int v0), .val (.int v1), .val (.int v2), .val (.int v3), .val (.int t), .val (.int u1), .val (.int u2), .val (.int k), .val (.int g), .val (.int s1), .val (.int s2), .val (.int s3), .val (.ref o), .val (.long J), .second, .val (.int D), .val (.int 0), .val (.int ((((Int32.ofNat (n / 128)).toInt64).toInt32) + 0)), .unset, .unset] [(.double (FP.i2d s2)), (.int ((((Int32.ofNat (n / 128)).toInt64).toInt32) + 0)), (.ref o)])) _
  refine X1.ldc2DoubleC hx hown (mvT hZ (hw _ (List.mem_of_getElem? (i := 14) rfl))) (g := (mkF m 163 #[.val (.int v0), .val (.int v1), .val (.int v2), .val (.int v3), .val (.int t), .val (.int u1), .val (.int u2), .val (.int k), .val (.int g), .val (.int s1), .val (.int s2), .val (.int s3), .val (.ref o), .val (.long J), .second, .val (.int D), .val (.int 0), .val (.int ((((Int32.ofNat (n / 128)).toInt64).toInt32) + 0)), .unset, .unset] [(.double (FP.i2d s2)), (.int ((((Int32.ofNat (n / 128)).toInt64).toInt32) + 0)), (.ref o)])) rfl (hb hby at_163) _ ?_
  show Steps p.tables e below (T1.setTop (mkF m 166 #[.val (.int v0), .val (.int v1), .val (.int v2), .val (.int v3), .val (.int t), .val (.int u1), .val (.int u2), .val (.int k), .val (.int g), .val (.int s1), .val (.int s2), .val (.int s3), .val (.ref o), .val (.long J), .second, .val (.int D), .val (.int 0), .val (.int ((((Int32.ofNat (n / 128)).toInt64).toInt32) + 0)), .unset, .unset] [(.double 4598175219545276416), (.double (FP.i2d s2)), (.int ((((Int32.ofNat (n / 128)).toInt64).toInt32) + 0)), (.ref o)])) _
  refine XS.dmulS X1.here hx rfl (hb hby at_166) rfl (by rw [hxs]; exact hxn) hxs ?_
  show Steps p.tables e below (T1.setTop (mkF m 167 #[.val (.int v0), .val (.int v1), .val (.int v2), .val (.int v3), .val (.int t), .val (.int u1), .val (.int u2), .val (.int k), .val (.int g), .val (.int s1), .val (.int s2), .val (.int s3), .val (.ref o), .val (.long J), .second, .val (.int D), .val (.int 0), .val (.int ((((Int32.ofNat (n / 128)).toInt64).toInt32) + 0)), .unset, .unset] [(.double x), (.int ((((Int32.ofNat (n / 128)).toInt64).toInt32) + 0)), (.ref o)])) _
  refine st2.trans ?_
  show Steps p.tables e below (T2.setTop (mkF m 170 #[.val (.int v0), .val (.int v1), .val (.int v2), .val (.int v3), .val (.int t), .val (.int u1), .val (.int u2), .val (.int k), .val (.int g), .val (.int s1), .val (.int s2), .val (.int s3), .val (.ref o), .val (.long J), .second, .val (.int D), .val (.int 0), .val (.int ((((Int32.ofNat (n / 128)).toInt64).toInt32) + 0)), .unset, .unset] [])) _
  refine XS.iload X2.here hx rfl (hb hby at_170) rfl ?_
  show Steps p.tables e below (T2.setTop (mkF m 172 #[.val (.int v0), .val (.int v1), .val (.int v2), .val (.int v3), .val (.int t), .val (.int u1), .val (.int u2), .val (.int k), .val (.int g), .val (.int s1), .val (.int s2), .val (.int s3), .val (.ref o), .val (.long J), .second, .val (.int D), .val (.int 0), .val (.int ((((Int32.ofNat (n / 128)).toInt64).toInt32) + 0)), .unset, .unset] [(.int 0)])) _
  refine XS.ifYes X2.here hx rfl rfl (hb hby at_172) rfl (by decide) (show (0 : Int) ≤ ((172 : Nat) : Int) + (12) by decide) (show (((172 : Nat) : Int) + (12)).toNat = 184 by decide) ?_
  show Steps p.tables e below (T2.setTop (mkF m 184 #[.val (.int v0), .val (.int v1), .val (.int v2), .val (.int v3), .val (.int t), .val (.int u1), .val (.int u2), .val (.int k), .val (.int g), .val (.int s1), .val (.int s2), .val (.int s3), .val (.ref o), .val (.long J), .second, .val (.int D), .val (.int 0), .val (.int ((((Int32.ofNat (n / 128)).toInt64).toInt32) + 0)), .unset, .unset] [])) _
  refine XT.lload X2.here hx rfl (hb hby at_184) rfl ?_
  show Steps p.tables e below (T2.setTop (mkF m 186 #[.val (.int v0), .val (.int v1), .val (.int v2), .val (.int v3), .val (.int t), .val (.int u1), .val (.int u2), .val (.int k), .val (.int g), .val (.int s1), .val (.int s2), .val (.int s3), .val (.ref o), .val (.long J), .second, .val (.int D), .val (.int 0), .val (.int ((((Int32.ofNat (n / 128)).toInt64).toInt32) + 0)), .unset, .unset] [(.long J)])) _
  refine XS.iload X2.here hx rfl (hb hby at_186) rfl ?_
  show Steps p.tables e below (T2.setTop (mkF m 188 #[.val (.int v0), .val (.int v1), .val (.int v2), .val (.int v3), .val (.int t), .val (.int u1), .val (.int u2), .val (.int k), .val (.int g), .val (.int s1), .val (.int s2), .val (.int s3), .val (.ref o), .val (.long J), .second, .val (.int D), .val (.int 0), .val (.int ((((Int32.ofNat (n / 128)).toInt64).toInt32) + 0)), .unset, .unset] [(.int s1), (.long J)])) _
  refine XS.iload X2.here hx rfl (hb hby at_188) rfl ?_
  show Steps p.tables e below (T2.setTop (mkF m 190 #[.val (.int v0), .val (.int v1), .val (.int v2), .val (.int v3), .val (.int t), .val (.int u1), .val (.int u2), .val (.int k), .val (.int g), .val (.int s1), .val (.int s2), .val (.int s3), .val (.ref o), .val (.long J), .second, .val (.int D), .val (.int 0), .val (.int ((((Int32.ofNat (n / 128)).toInt64).toInt32) + 0)), .unset, .unset] [(.int u1), (.int s1), (.long J)])) _
  refine st3 _ ?_
  show Steps p.tables e below (T3.setTop (mkF m 193 #[.val (.int v0), .val (.int v1), .val (.int v2), .val (.int v3), .val (.int t), .val (.int u1), .val (.int u2), .val (.int k), .val (.int g), .val (.int s1), .val (.int s2), .val (.int s3), .val (.ref o), .val (.long J), .second, .val (.int D), .val (.int 0), .val (.int ((((Int32.ofNat (n / 128)).toInt64).toInt32) + 0)), .unset, .unset] [(.long (s1.toInt64 <<< ((6 - u1).toInt64 &&& 63))), (.long J)])) _
  refine XT.ladd X3.here hx rfl (hb hby at_193) rfl ?_
  show Steps p.tables e below (T3.setTop (mkF m 194 #[.val (.int v0), .val (.int v1), .val (.int v2), .val (.int v3), .val (.int t), .val (.int u1), .val (.int u2), .val (.int k), .val (.int g), .val (.int s1), .val (.int s2), .val (.int s3), .val (.ref o), .val (.long J), .second, .val (.int D), .val (.int 0), .val (.int ((((Int32.ofNat (n / 128)).toInt64).toInt32) + 0)), .unset, .unset] [(.long (J + (s1.toInt64 <<< ((6 - u1).toInt64 &&& 63))))])) _
  refine XT.lstore X3.here hx rfl (hb hby at_194) rfl rfl ?_
  show Steps p.tables e below (T3.setTop (mkF m 196 #[.val (.int v0), .val (.int v1), .val (.int v2), .val (.int v3), .val (.int t), .val (.int u1), .val (.int u2), .val (.int k), .val (.int g), .val (.int s1), .val (.int s2), .val (.int s3), .val (.ref o), .val (.long (J + (s1.toInt64 <<< ((6 - u1).toInt64 &&& 63)))), .second, .val (.int D), .val (.int 0), .val (.int ((((Int32.ofNat (n / 128)).toInt64).toInt32) + 0)), .unset, .unset] [])) _
  refine XS.iload X3.here hx rfl (hb hby at_196) rfl ?_
  show Steps p.tables e below (T3.setTop (mkF m 198 #[.val (.int v0), .val (.int v1), .val (.int v2), .val (.int v3), .val (.int t), .val (.int u1), .val (.int u2), .val (.int k), .val (.int g), .val (.int s1), .val (.int s2), .val (.int s3), .val (.ref o), .val (.long (J + (s1.toInt64 <<< ((6 - u1).toInt64 &&& 63)))), .second, .val (.int D), .val (.int 0), .val (.int ((((Int32.ofNat (n / 128)).toInt64).toInt32) + 0)), .unset, .unset] [(.int s2)])) _
  refine XS.istore X3.here hx rfl (hb hby at_198) rfl rfl ?_
  show Steps p.tables e below (T3.setTop (mkF m 200 #[.val (.int v0), .val (.int v1), .val (.int v2), .val (.int v3), .val (.int t), .val (.int u1), .val (.int u2), .val (.int k), .val (.int g), .val (.int s1), .val (.int s2), .val (.int s3), .val (.ref o), .val (.long (J + (s1.toInt64 <<< ((6 - u1).toInt64 &&& 63)))), .second, .val (.int s2), .val (.int 0), .val (.int ((((Int32.ofNat (n / 128)).toInt64).toInt32) + 0)), .unset, .unset] [])) _
  exact k'
set_option maxRecDepth 65536 in
set_option maxHeartbeats 40000000 in
theorem own_s4a (X : Stand p l e room_1 s m args below meth c T locs 1 4) (hx : p.tables.exec = Jvm.exec) (hZ : Z.Warmed39 s.vm) (hw : ∀ d ∈ tables_1, d.before a0 Z = true) (hby : c.code = code) (hml : c.maxLocals = 20) (hown : s.vm.findClass "com/example/herring/herring/sim/FlowCapacitySetCarsPerSecondPinLaw" = some m.cls) (eT : T.heap = h) (N0 : Fr n0 locs) (Z0 : n0 ≤ h.size) (O : Old Z n0 h) (S0 : Sta Z Z.heap "java/lang/StrictMath" "$assertionsDisabled" "Z" (.int 1)) {v0 v1 v2 v3 t u1 u2 k g s1 s2 s3 : Int32}{J : Int64} {D z1 z2 : Int32} {o : Addr} (go : n0 ≤ o) {c1 c2 c3 c4 q st x x2 : UInt64} {n : Nat} (F : own_FC Z h o c1 c2 c3 c4) (hn38 : n + 1 < 2 ^ 37 + 2 ^ 20) (hn126 : n % 128 ≤ 126) (hc1 : cmpValue (FP.dcmp c1 0) .l = 1) (hq : FP.ddiv c3 c1 = q) (hqn : NoNaN64 q) (hr' : FP.dadd c2 q = own_enc n) (hx2n : NoNaN64 x2) (hk : ¬ k < 3) (hxs : FP.dmul (FP.i2d s3) 4598175219545276416 = x) (hxn : NoNaN64 x) (H : ((Int32.ofNat (n / 128)).toInt64 < ((Int32.ofNat (n / 128)).toInt64.toInt32 + g).toInt64 ∧ st = FP.i2d ((Int32.ofNat (n / 128)).toInt64.toInt32 + g) ∧ FP.dadd 0 x = x2) ∨ (¬ (Int32.ofNat (n / 128)).toInt64 < ((Int32.ofNat (n / 128)).toInt64.toInt32 + g).toInt64 ∧ st = c2 ∧ FP.dadd c3 x = x2)) (hg : 0 < g) :
    ∃ T' h' L', Stand p l e room_1 s m args below meth c T' L' 1 4 ∧ T'.heap = h' ∧ Fr n0 L' ∧ n0 ≤ h'.size ∧ Old Z n0 h' ∧ own_FC Z h' o c1 st x2 x ∧ ∀ target, Steps p.tables e below (T'.setTop (mkF m 261 #[.val (.int v0), .val (.int v1), .val (.int v2), .val (.int v3), .val (.int t), .val (.int u1), .val (.int u2), .val (.int k), .val (.int g), .val (.int s1), .val (.int s2), .val (.int s3), .val (.ref o), .val (.long ((((((Int32.ofNat (n / 128)).toInt64).toInt32) + g).toInt64) <<< ((6 : Int32).toInt64 &&& 63))), .second, .val (.int s3), .val (.int ((((Int32.ofNat (n / 128)).toInt64).toInt32) + g)), .val (.int z2), .unset, .unset] [])) target → Steps p.tables e below (T.setTop (mkF m 200 #[.val (.int v0), .val (.int v1), .val (.int v2), .val (.int v3), .val (.int t), .val (.int u1), .val (.int u2), .val (.int k), .val (.int g), .val (.int s1), .val (.int s2), .val (.int s3), .val (.ref o), .val (.long J), .second, .val (.int D), .val (.int z1), .val (.int z2), .unset, .unset] [])) target := by
  obtain ⟨cq1, kq1, q1a, q1b, q1c⟩ := isOf hZ eT F.1
  obtain ⟨_, _, ⟨T1, L1, k1, n1⟩, -, X1, ⟨Lc1, hQ1, l1, y1, z1⟩, st1⟩ := X.virtualBack hx (y := (⟨"com/example/herring/herring/sim/FlowCapacity", "nextSecond", "()J"⟩ : MethodName)) (z := (⟨"com/example/herring/herring/sim/FlowCapacity", "nextSecond", "()J"⟩ : MethodName)) hown (mvT hZ (hw _ (List.mem_of_getElem? (i := 78) rfl))) (mvT hZ (hw _ (List.mem_of_getElem? (i := 32) rfl))) (notFace_of_selects (args := #[]) (mvT hZ (hw _ (List.mem_of_getElem? (i := 34) rfl)))) (mvT hZ (hw _ (List.mem_of_getElem? (i := 34) rfl))) (mvT hZ (hw _ (List.mem_of_getElem? (i := 33) rfl))) (by decide) (backOf (W := 0) (own_next l Z a0 hw [] o c1 c2 c3 c4 q n hn38 hn126 hc1 hq hqn hr' h n0 Z0 F (S0.ext O.2)) hZ (hw _ (List.mem_of_getElem? (i := 35) rfl)) (hw _ (List.mem_of_getElem? (i := 3) rfl)) (by decide) (by decide)) q1a q1c (g := (mkF m 208 #[.val (.int v0), .val (.int v1), .val (.int v2), .val (.int v3), .val (.int t), .val (.int u1), .val (.int u2), .val (.int k), .val (.int g), .val (.int s1), .val (.int s2), .val (.int s3), .val (.ref o), .val (.long J), .second, .val (.int D), .val (.int z1), .val (.int z2), .unset, .unset] [(.ref o)])) rfl (by rw [hml]; rfl) (Steps.refl _) (argsL := []) (rest := []) (lenOf own_lpd4 rfl) rfl (by show 2 * 0 + _ ≤ _; exact Nat.le_of_eq rfl) (hb hby at_208) (fun _ _ => ⟨rfl, eT, (by decide : 1 + 0 ≤ _), (by decide : 4 + 0 ≤ _)⟩)
  dsimp only [Pt.U, Pt.locs, Pt.cells, Pt.slots] at X1 l1 y1 z1 st1 hQ1
  subst l1 y1 z1
  obtain ⟨rfl, N1, e1⟩ := hQ1
  have N1 := Fr.app N0 N1
  obtain ⟨cq2, kq2, q2a, q2b, q2c⟩ := isOf hZ e1 F.1
  obtain ⟨_, _, ⟨T2, L2, k2, n2⟩, -, X2, ⟨Lc2, hQ2, l2, y2, z2⟩, st2⟩ := X1.virtualBack hx (y := (⟨"com/example/herring/herring/sim/FlowCapacity", "count", "(ID)V"⟩ : MethodName)) (z := (⟨"com/example/herring/herring/sim/FlowCapacity", "count", "(ID)V"⟩ : MethodName)) hown (mvT hZ (hw _ (List.mem_of_getElem? (i := 26) rfl))) (mvT hZ (hw _ (List.mem_of_getElem? (i := 27) rfl))) (notFace_of_selects (args := #[]) (mvT hZ (hw _ (List.mem_of_getElem? (i := 29) rfl)))) (mvT hZ (hw _ (List.mem_of_getElem? (i := 29) rfl))) (mvT hZ (hw _ (List.mem_of_getElem? (i := 28) rfl))) (by decide) (backOf (W := 0) (own_countA l Z a0 hw [] o ((Int32.ofNat (n / 128)).toInt64.toInt32 + g) x c1 c2 c3 c4 q n hn38 hn126 hc1 hq hqn hr' st x2 hx2n H h n0 Z0 F go (S0.ext O.2)) hZ (hw _ (List.mem_of_getElem? (i := 30) rfl)) (hw _ (List.mem_of_getElem? (i := 3) rfl)) (by decide) (by decide)) q2a q2c (g := (mkF m 228 #[.val (.int v0), .val (.int v1), .val (.int v2), .val (.int v3), .val (.int t), .val (.int u1), .val (.int u2), .val (.int k), .val (.int g), .val (.int s1), .val (.int s2), .val (.int s3), .val (.ref o), .val (.long J), .second, .val (.int D), .val (.int ((((Int32.ofNat (n / 128)).toInt64).toInt32) + g)), .val (.int z2), .unset, .unset] [(.double x), (.int ((((Int32.ofNat (n / 128)).toInt64).toInt32) + g)), (.ref o)])) rfl (by rw [hml]; rfl) (Steps.refl _) (argsL := [(.int ((((Int32.ofNat (n / 128)).toInt64).toInt32) + g)), (.double x)]) (rest := []) (lenOf own_lpd3 rfl) rfl (by show 2 * 0 + _ ≤ _; exact Nat.le_of_eq rfl) (hb hby at_228) (fun _ _ => ⟨rfl, e1, (by decide : 1 + 0 + 0 ≤ _), (by decide : 4 + 0 + 0 ≤ _)⟩)
  dsimp only [Pt.U, Pt.locs, Pt.cells, Pt.slots] at X2 l2 y2 z2 st2 hQ2
  subst l2 y2 z2
  obtain ⟨rfl, N2, K2, F2⟩ := hQ2
  have N2 := Fr.app N1 N2
  have Z2 : n0 ≤ T2.heap.size := Nat.le_trans Z0 K2.1
  have O2 : Old Z n0 T2.heap := O.keep K2 (allS go all0)
  refine ⟨T2, T2.heap, _, X2, rfl, N2, Z2, O2, F2, fun target k' => ?_⟩
  show Steps p.tables e below (T.setTop (mkF m 200 #[.val (.int v0), .val (.int v1), .val (.int v2), .val (.int v3), .val (.int t), .val (.int u1), .val (.int u2), .val (.int k), .val (.int g), .val (.int s1), .val (.int s2), .val (.int s3), .val (.ref o), .val (.long J), .second, .val (.int D), .val (.int z1), .val (.int z2), .unset, .unset] [])) _
  refine XS.iload X.here hx rfl (hb hby at_200) rfl ?_
  show Steps p.tables e below (T.setTop (mkF m 202 #[.val (.int v0), .val (.int v1), .val (.int v2), .val (.int v3), .val (.int t), .val (.int u1), .val (.int u2), .val (.int k), .val (.int g), .val (.int s1), .val (.int s2), .val (.int s3), .val (.ref o), .val (.long J), .second, .val (.int D), .val (.int z1), .val (.int z2), .unset, .unset] [(.int k)])) _
  refine XT.iconstV X.here hx rfl 3 (hb hby at_202) rfl ?_
  show Steps p.tables e below (T.setTop (mkF m 203 #[.val (.int v0), .val (.int v1), .val (.int v2), .val (.int v3), .val (.int t), .val (.int u1), .val (.int u2), .val (.int k), .val (.int g), .val (.int s1), .val (.int s2), .val (.int s3), .val (.ref o), .val (.long J), .second, .val (.int D), .val (.int z1), .val (.int z2), .unset, .unset] [(.int 3), (.int k)])) _
  refine XS.icmpNo X.here hx rfl (hb hby at_203) rfl (XT.ii_lt_f hk) ?_
  show Steps p.tables e below (T.setTop (mkF m 206 #[.val (.int v0), .val (.int v1), .val (.int v2), .val (.int v3), .val (.int t), .val (.int u1), .val (.int u2), .val (.int k), .val (.int g), .val (.int s1), .val (.int s2), .val (.int s3), .val (.ref o), .val (.long J), .second, .val (.int D), .val (.int z1), .val (.int z2), .unset, .unset] [])) _
  refine XS.aload X.here hx rfl (hb hby at_206) rfl rfl ?_
  show Steps p.tables e below (T.setTop (mkF m 208 #[.val (.int v0), .val (.int v1), .val (.int v2), .val (.int v3), .val (.int t), .val (.int u1), .val (.int u2), .val (.int k), .val (.int g), .val (.int s1), .val (.int s2), .val (.int s3), .val (.ref o), .val (.long J), .second, .val (.int D), .val (.int z1), .val (.int z2), .unset, .unset] [(.ref o)])) _
  refine st1.trans ?_
  show Steps p.tables e below (T1.setTop (mkF m 211 #[.val (.int v0), .val (.int v1), .val (.int v2), .val (.int v3), .val (.int t), .val (.int u1), .val (.int u2), .val (.int k), .val (.int g), .val (.int s1), .val (.int s2), .val (.int s3), .val (.ref o), .val (.long J), .second, .val (.int D), .val (.int z1), .val (.int z2), .unset, .unset] [(.long ((Int32.ofNat (n / 128)).toInt64))])) _
  refine XT.l2i X1.here hx rfl (hb hby at_211) rfl ?_
  show Steps p.tables e below (T1.setTop (mkF m 212 #[.val (.int v0), .val (.int v1), .val (.int v2), .val (.int v3), .val (.int t), .val (.int u1), .val (.int u2), .val (.int k), .val (.int g), .val (.int s1), .val (.int s2), .val (.int s3), .val (.ref o), .val (.long J), .second, .val (.int D), .val (.int z1), .val (.int z2), .unset, .unset] [(.int (((Int32.ofNat (n / 128)).toInt64).toInt32))])) _
  refine XS.iload X1.here hx rfl (hb hby at_212) rfl ?_
  show Steps p.tables e below (T1.setTop (mkF m 214 #[.val (.int v0), .val (.int v1), .val (.int v2), .val (.int v3), .val (.int t), .val (.int u1), .val (.int u2), .val (.int k), .val (.int g), .val (.int s1), .val (.int s2), .val (.int s3), .val (.ref o), .val (.long J), .second, .val (.int D), .val (.int z1), .val (.int z2), .unset, .unset] [(.int g), (.int (((Int32.ofNat (n / 128)).toInt64).toInt32))])) _
  refine XS.iadd X1.here hx rfl (hb hby at_214) rfl ?_
  show Steps p.tables e below (T1.setTop (mkF m 215 #[.val (.int v0), .val (.int v1), .val (.int v2), .val (.int v3), .val (.int t), .val (.int u1), .val (.int u2), .val (.int k), .val (.int g), .val (.int s1), .val (.int s2), .val (.int s3), .val (.ref o), .val (.long J), .second, .val (.int D), .val (.int z1), .val (.int z2), .unset, .unset] [(.int ((((Int32.ofNat (n / 128)).toInt64).toInt32) + g))])) _
  refine XS.istore X1.here hx rfl (hb hby at_215) rfl rfl ?_
  show Steps p.tables e below (T1.setTop (mkF m 217 #[.val (.int v0), .val (.int v1), .val (.int v2), .val (.int v3), .val (.int t), .val (.int u1), .val (.int u2), .val (.int k), .val (.int g), .val (.int s1), .val (.int s2), .val (.int s3), .val (.ref o), .val (.long J), .second, .val (.int D), .val (.int ((((Int32.ofNat (n / 128)).toInt64).toInt32) + g)), .val (.int z2), .unset, .unset] [])) _
  refine XS.aload X1.here hx rfl (hb hby at_217) rfl rfl ?_
  show Steps p.tables e below (T1.setTop (mkF m 219 #[.val (.int v0), .val (.int v1), .val (.int v2), .val (.int v3), .val (.int t), .val (.int u1), .val (.int u2), .val (.int k), .val (.int g), .val (.int s1), .val (.int s2), .val (.int s3), .val (.ref o), .val (.long J), .second, .val (.int D), .val (.int ((((Int32.ofNat (n / 128)).toInt64).toInt32) + g)), .val (.int z2), .unset, .unset] [(.ref o)])) _
  refine XS.iload X1.here hx rfl (hb hby at_219) rfl ?_
  show Steps p.tables e below (T1.setTop (mkF m 221 #[.val (.int v0), .val (.int v1), .val (.int v2), .val (.int v3), .val (.int t), .val (.int u1), .val (.int u2), .val (.int k), .val (.int g), .val (.int s1), .val (.int s2), .val (.int s3), .val (.ref o), .val (.long J), .second, .val (.int D), .val (.int ((((Int32.ofNat (n / 128)).toInt64).toInt32) + g)), .val (.int z2), .unset, .unset] [(.int ((((Int32.ofNat (n / 128)).toInt64).toInt32) + g)), (.ref o)])) _
  refine XS.iload X1.here hx rfl (hb hby at_221) rfl ?_
  show Steps p.tables e below (T1.setTop (mkF m 223 #[.val (.int v0), .val (.int v1), .val (.int v2), .val (.int v3), .val (.int t), .val (.int u1), .val (.int u2), .val (.int k), .val (.int g), .val (.int s1), .val (.int s2), .val (.int s3), .val (.ref o), .val (.long J), .second, .val (.int D), .val (.int ((((Int32.ofNat (n / 128)).toInt64).toInt32) + g)), .val (.int z2), .unset, .unset] [(.int s3), (.int ((((Int32.ofNat (n / 128)).toInt64).toInt32) + g)), (.ref o)])) _
  refine XS.i2dS X1.here hx rfl (hb hby at_223) rfl rfl ?_
  show Steps p.tables e below (T1.setTop (mkF m 224 #[.val (.int v0), .val (.int v1), .val (.int v2), .val (.int v3), .val (.int t), .val (.int u1), .val (.int u2), .val (.int k), .val (.int g), .val (.int s1), .val (.int s2), .val (.int s3), .val (.ref o), .val (.long J), .second, .val (.int D), .val (.int ((((Int32.ofNat (n / 128)).toInt64).toInt32) + g)), .val (.int z2), .unset, .unset] [(.double (FP.i2d s3)), (.int ((((Int32.ofNat (n / 128)).toInt64).toInt32) + g)), (.ref o)])) _
  refine X1.ldc2DoubleC hx hown (mvT hZ (hw _ (List.mem_of_getElem? (i := 14) rfl))) (g := (mkF m 224 #[.val (.int v0), .val (.int v1), .val (.int v2), .val (.int v3), .val (.int t), .val (.int u1), .val (.int u2), .val (.int k), .val (.int g), .val (.int s1), .val (.int s2), .val (.int s3), .val (.ref o), .val (.long J), .second, .val (.int D), .val (.int ((((Int32.ofNat (n / 128)).toInt64).toInt32) + g)), .val (.int z2), .unset, .unset] [(.double (FP.i2d s3)), (.int ((((Int32.ofNat (n / 128)).toInt64).toInt32) + g)), (.ref o)])) rfl (hb hby at_224) _ ?_
  show Steps p.tables e below (T1.setTop (mkF m 227 #[.val (.int v0), .val (.int v1), .val (.int v2), .val (.int v3), .val (.int t), .val (.int u1), .val (.int u2), .val (.int k), .val (.int g), .val (.int s1), .val (.int s2), .val (.int s3), .val (.ref o), .val (.long J), .second, .val (.int D), .val (.int ((((Int32.ofNat (n / 128)).toInt64).toInt32) + g)), .val (.int z2), .unset, .unset] [(.double 4598175219545276416), (.double (FP.i2d s3)), (.int ((((Int32.ofNat (n / 128)).toInt64).toInt32) + g)), (.ref o)])) _
  refine XS.dmulS X1.here hx rfl (hb hby at_227) rfl (by rw [hxs]; exact hxn) hxs ?_
  show Steps p.tables e below (T1.setTop (mkF m 228 #[.val (.int v0), .val (.int v1), .val (.int v2), .val (.int v3), .val (.int t), .val (.int u1), .val (.int u2), .val (.int k), .val (.int g), .val (.int s1), .val (.int s2), .val (.int s3), .val (.ref o), .val (.long J), .second, .val (.int D), .val (.int ((((Int32.ofNat (n / 128)).toInt64).toInt32) + g)), .val (.int z2), .unset, .unset] [(.double x), (.int ((((Int32.ofNat (n / 128)).toInt64).toInt32) + g)), (.ref o)])) _
  refine st2.trans ?_
  show Steps p.tables e below (T2.setTop (mkF m 231 #[.val (.int v0), .val (.int v1), .val (.int v2), .val (.int v3), .val (.int t), .val (.int u1), .val (.int u2), .val (.int k), .val (.int g), .val (.int s1), .val (.int s2), .val (.int s3), .val (.ref o), .val (.long J), .second, .val (.int D), .val (.int ((((Int32.ofNat (n / 128)).toInt64).toInt32) + g)), .val (.int z2), .unset, .unset] [])) _
  refine XS.iload X2.here hx rfl (hb hby at_231) rfl ?_
  show Steps p.tables e below (T2.setTop (mkF m 233 #[.val (.int v0), .val (.int v1), .val (.int v2), .val (.int v3), .val (.int t), .val (.int u1), .val (.int u2), .val (.int k), .val (.int g), .val (.int s1), .val (.int s2), .val (.int s3), .val (.ref o), .val (.long J), .second, .val (.int D), .val (.int ((((Int32.ofNat (n / 128)).toInt64).toInt32) + g)), .val (.int z2), .unset, .unset] [(.int g)])) _
  refine XS.ifNo X2.here hx rfl (hb hby at_233) rfl (XT.i0_le_f hg) ?_
  show Steps p.tables e below (T2.setTop (mkF m 236 #[.val (.int v0), .val (.int v1), .val (.int v2), .val (.int v3), .val (.int t), .val (.int u1), .val (.int u2), .val (.int k), .val (.int g), .val (.int s1), .val (.int s2), .val (.int s3), .val (.ref o), .val (.long J), .second, .val (.int D), .val (.int ((((Int32.ofNat (n / 128)).toInt64).toInt32) + g)), .val (.int z2), .unset, .unset] [])) _
  refine XS.iload X2.here hx rfl (hb hby at_236) rfl ?_
  show Steps p.tables e below (T2.setTop (mkF m 238 #[.val (.int v0), .val (.int v1), .val (.int v2), .val (.int v3), .val (.int t), .val (.int u1), .val (.int u2), .val (.int k), .val (.int g), .val (.int s1), .val (.int s2), .val (.int s3), .val (.ref o), .val (.long J), .second, .val (.int D), .val (.int ((((Int32.ofNat (n / 128)).toInt64).toInt32) + g)), .val (.int z2), .unset, .unset] [(.int ((((Int32.ofNat (n / 128)).toInt64).toInt32) + g))])) _
  refine XT.i2l X2.here hx rfl (hb hby at_238) rfl ?_
  show Steps p.tables e below (T2.setTop (mkF m 239 #[.val (.int v0), .val (.int v1), .val (.int v2), .val (.int v3), .val (.int t), .val (.int u1), .val (.int u2), .val (.int k), .val (.int g), .val (.int s1), .val (.int s2), .val (.int s3), .val (.ref o), .val (.long J), .second, .val (.int D), .val (.int ((((Int32.ofNat (n / 128)).toInt64).toInt32) + g)), .val (.int z2), .unset, .unset] [(.long (((((Int32.ofNat (n / 128)).toInt64).toInt32) + g).toInt64))])) _
  refine XT.bipushV X2.here hx rfl 6 (hb hby at_239) (by decide) ?_
  show Steps p.tables e below (T2.setTop (mkF m 241 #[.val (.int v0), .val (.int v1), .val (.int v2), .val (.int v3), .val (.int t), .val (.int u1), .val (.int u2), .val (.int k), .val (.int g), .val (.int s1), .val (.int s2), .val (.int s3), .val (.ref o), .val (.long J), .second, .val (.int D), .val (.int ((((Int32.ofNat (n / 128)).toInt64).toInt32) + g)), .val (.int z2), .unset, .unset] [(.int 6), (.long (((((Int32.ofNat (n / 128)).toInt64).toInt32) + g).toInt64))])) _
  refine XT.lshl X2.here hx rfl (hb hby at_241) rfl ?_
  show Steps p.tables e below (T2.setTop (mkF m 242 #[.val (.int v0), .val (.int v1), .val (.int v2), .val (.int v3), .val (.int t), .val (.int u1), .val (.int u2), .val (.int k), .val (.int g), .val (.int s1), .val (.int s2), .val (.int s3), .val (.ref o), .val (.long J), .second, .val (.int D), .val (.int ((((Int32.ofNat (n / 128)).toInt64).toInt32) + g)), .val (.int z2), .unset, .unset] [(.long ((((((Int32.ofNat (n / 128)).toInt64).toInt32) + g).toInt64) <<< ((6 : Int32).toInt64 &&& 63)))])) _
  refine XS.goto X2.here hx rfl rfl (hb hby at_242) (show (0 : Int) ≤ ((242 : Nat) : Int) + (13) by decide) (show (((242 : Nat) : Int) + (13)).toNat = 255 by decide) ?_
  show Steps p.tables e below (T2.setTop (mkF m 255 #[.val (.int v0), .val (.int v1), .val (.int v2), .val (.int v3), .val (.int t), .val (.int u1), .val (.int u2), .val (.int k), .val (.int g), .val (.int s1), .val (.int s2), .val (.int s3), .val (.ref o), .val (.long J), .second, .val (.int D), .val (.int ((((Int32.ofNat (n / 128)).toInt64).toInt32) + g)), .val (.int z2), .unset, .unset] [(.long ((((((Int32.ofNat (n / 128)).toInt64).toInt32) + g).toInt64) <<< ((6 : Int32).toInt64 &&& 63)))])) _
  refine XT.lstore X2.here hx rfl (hb hby at_255) rfl rfl ?_
  show Steps p.tables e below (T2.setTop (mkF m 257 #[.val (.int v0), .val (.int v1), .val (.int v2), .val (.int v3), .val (.int t), .val (.int u1), .val (.int u2), .val (.int k), .val (.int g), .val (.int s1), .val (.int s2), .val (.int s3), .val (.ref o), .val (.long ((((((Int32.ofNat (n / 128)).toInt64).toInt32) + g).toInt64) <<< ((6 : Int32).toInt64 &&& 63))), .second, .val (.int D), .val (.int ((((Int32.ofNat (n / 128)).toInt64).toInt32) + g)), .val (.int z2), .unset, .unset] [])) _
  refine XS.iload X2.here hx rfl (hb hby at_257) rfl ?_
  show Steps p.tables e below (T2.setTop (mkF m 259 #[.val (.int v0), .val (.int v1), .val (.int v2), .val (.int v3), .val (.int t), .val (.int u1), .val (.int u2), .val (.int k), .val (.int g), .val (.int s1), .val (.int s2), .val (.int s3), .val (.ref o), .val (.long ((((((Int32.ofNat (n / 128)).toInt64).toInt32) + g).toInt64) <<< ((6 : Int32).toInt64 &&& 63))), .second, .val (.int D), .val (.int ((((Int32.ofNat (n / 128)).toInt64).toInt32) + g)), .val (.int z2), .unset, .unset] [(.int s3)])) _
  refine XS.istore X2.here hx rfl (hb hby at_259) rfl rfl ?_
  show Steps p.tables e below (T2.setTop (mkF m 261 #[.val (.int v0), .val (.int v1), .val (.int v2), .val (.int v3), .val (.int t), .val (.int u1), .val (.int u2), .val (.int k), .val (.int g), .val (.int s1), .val (.int s2), .val (.int s3), .val (.ref o), .val (.long ((((((Int32.ofNat (n / 128)).toInt64).toInt32) + g).toInt64) <<< ((6 : Int32).toInt64 &&& 63))), .second, .val (.int s3), .val (.int ((((Int32.ofNat (n / 128)).toInt64).toInt32) + g)), .val (.int z2), .unset, .unset] [])) _
  exact k'
set_option maxRecDepth 65536 in
set_option maxHeartbeats 40000000 in
theorem own_s4b (X : Stand p l e room_1 s m args below meth c T locs 1 4) (hx : p.tables.exec = Jvm.exec) (hZ : Z.Warmed39 s.vm) (hw : ∀ d ∈ tables_1, d.before a0 Z = true) (hby : c.code = code) (hml : c.maxLocals = 20) (hown : s.vm.findClass "com/example/herring/herring/sim/FlowCapacitySetCarsPerSecondPinLaw" = some m.cls) (eT : T.heap = h) (N0 : Fr n0 locs) (Z0 : n0 ≤ h.size) (O : Old Z n0 h) (S0 : Sta Z Z.heap "java/lang/StrictMath" "$assertionsDisabled" "Z" (.int 1)) {v0 v1 v2 v3 t u1 u2 k g s1 s2 s3 : Int32}{J : Int64} {D z1 z2 : Int32} {o : Addr} (go : n0 ≤ o) {c1 c2 c3 c4 q st x x2 : UInt64} {n : Nat} (F : own_FC Z h o c1 c2 c3 c4) (hn38 : n + 1 < 2 ^ 37 + 2 ^ 20) (hn126 : n % 128 ≤ 126) (hc1 : cmpValue (FP.dcmp c1 0) .l = 1) (hq : FP.ddiv c3 c1 = q) (hqn : NoNaN64 q) (hr' : FP.dadd c2 q = own_enc n) (hx2n : NoNaN64 x2) (hk : ¬ k < 3) (hxs : FP.dmul (FP.i2d s3) 4598175219545276416 = x) (hxn : NoNaN64 x) (H : ((Int32.ofNat (n / 128)).toInt64 < ((Int32.ofNat (n / 128)).toInt64.toInt32 + g).toInt64 ∧ st = FP.i2d ((Int32.ofNat (n / 128)).toInt64.toInt32 + g) ∧ FP.dadd 0 x = x2) ∨ (¬ (Int32.ofNat (n / 128)).toInt64 < ((Int32.ofNat (n / 128)).toInt64.toInt32 + g).toInt64 ∧ st = c2 ∧ FP.dadd c3 x = x2)) (hg : ¬ 0 < g) :
    ∃ T' h' L', Stand p l e room_1 s m args below meth c T' L' 1 4 ∧ T'.heap = h' ∧ Fr n0 L' ∧ n0 ≤ h'.size ∧ Old Z n0 h' ∧ own_FC Z h' o c1 st x2 x ∧ ∀ target, Steps p.tables e below (T'.setTop (mkF m 261 #[.val (.int v0), .val (.int v1), .val (.int v2), .val (.int v3), .val (.int t), .val (.int u1), .val (.int u2), .val (.int k), .val (.int g), .val (.int s1), .val (.int s2), .val (.int s3), .val (.ref o), .val (.long (J + (s2.toInt64 <<< ((6 - u1).toInt64 &&& 63)))), .second, .val (.int s3), .val (.int ((((Int32.ofNat (n / 128)).toInt64).toInt32) + g)), .val (.int z2), .unset, .unset] [])) target → Steps p.tables e below (T.setTop (mkF m 200 #[.val (.int v0), .val (.int v1), .val (.int v2), .val (.int v3), .val (.int t), .val (.int u1), .val (.int u2), .val (.int k), .val (.int g), .val (.int s1), .val (.int s2), .val (.int s3), .val (.ref o), .val (.long J), .second, .val (.int D), .val (.int z1), .val (.int z2), .unset, .unset] [])) target := by
  obtain ⟨cq1, kq1, q1a, q1b, q1c⟩ := isOf hZ eT F.1
  obtain ⟨_, _, ⟨T1, L1, k1, n1⟩, -, X1, ⟨Lc1, hQ1, l1, y1, z1⟩, st1⟩ := X.virtualBack hx (y := (⟨"com/example/herring/herring/sim/FlowCapacity", "nextSecond", "()J"⟩ : MethodName)) (z := (⟨"com/example/herring/herring/sim/FlowCapacity", "nextSecond", "()J"⟩ : MethodName)) hown (mvT hZ (hw _ (List.mem_of_getElem? (i := 78) rfl))) (mvT hZ (hw _ (List.mem_of_getElem? (i := 32) rfl))) (notFace_of_selects (args := #[]) (mvT hZ (hw _ (List.mem_of_getElem? (i := 34) rfl)))) (mvT hZ (hw _ (List.mem_of_getElem? (i := 34) rfl))) (mvT hZ (hw _ (List.mem_of_getElem? (i := 33) rfl))) (by decide) (backOf (W := 0) (own_next l Z a0 hw [] o c1 c2 c3 c4 q n hn38 hn126 hc1 hq hqn hr' h n0 Z0 F (S0.ext O.2)) hZ (hw _ (List.mem_of_getElem? (i := 35) rfl)) (hw _ (List.mem_of_getElem? (i := 3) rfl)) (by decide) (by decide)) q1a q1c (g := (mkF m 208 #[.val (.int v0), .val (.int v1), .val (.int v2), .val (.int v3), .val (.int t), .val (.int u1), .val (.int u2), .val (.int k), .val (.int g), .val (.int s1), .val (.int s2), .val (.int s3), .val (.ref o), .val (.long J), .second, .val (.int D), .val (.int z1), .val (.int z2), .unset, .unset] [(.ref o)])) rfl (by rw [hml]; rfl) (Steps.refl _) (argsL := []) (rest := []) (lenOf own_lpd4 rfl) rfl (by show 2 * 0 + _ ≤ _; exact Nat.le_of_eq rfl) (hb hby at_208) (fun _ _ => ⟨rfl, eT, (by decide : 1 + 0 ≤ _), (by decide : 4 + 0 ≤ _)⟩)
  dsimp only [Pt.U, Pt.locs, Pt.cells, Pt.slots] at X1 l1 y1 z1 st1 hQ1
  subst l1 y1 z1
  obtain ⟨rfl, N1, e1⟩ := hQ1
  have N1 := Fr.app N0 N1
  obtain ⟨cq2, kq2, q2a, q2b, q2c⟩ := isOf hZ e1 F.1
  obtain ⟨_, _, ⟨T2, L2, k2, n2⟩, -, X2, ⟨Lc2, hQ2, l2, y2, z2⟩, st2⟩ := X1.virtualBack hx (y := (⟨"com/example/herring/herring/sim/FlowCapacity", "count", "(ID)V"⟩ : MethodName)) (z := (⟨"com/example/herring/herring/sim/FlowCapacity", "count", "(ID)V"⟩ : MethodName)) hown (mvT hZ (hw _ (List.mem_of_getElem? (i := 26) rfl))) (mvT hZ (hw _ (List.mem_of_getElem? (i := 27) rfl))) (notFace_of_selects (args := #[]) (mvT hZ (hw _ (List.mem_of_getElem? (i := 29) rfl)))) (mvT hZ (hw _ (List.mem_of_getElem? (i := 29) rfl))) (mvT hZ (hw _ (List.mem_of_getElem? (i := 28) rfl))) (by decide) (backOf (W := 0) (own_countA l Z a0 hw [] o ((Int32.ofNat (n / 128)).toInt64.toInt32 + g) x c1 c2 c3 c4 q n hn38 hn126 hc1 hq hqn hr' st x2 hx2n H h n0 Z0 F go (S0.ext O.2)) hZ (hw _ (List.mem_of_getElem? (i := 30) rfl)) (hw _ (List.mem_of_getElem? (i := 3) rfl)) (by decide) (by decide)) q2a q2c (g := (mkF m 228 #[.val (.int v0), .val (.int v1), .val (.int v2), .val (.int v3), .val (.int t), .val (.int u1), .val (.int u2), .val (.int k), .val (.int g), .val (.int s1), .val (.int s2), .val (.int s3), .val (.ref o), .val (.long J), .second, .val (.int D), .val (.int ((((Int32.ofNat (n / 128)).toInt64).toInt32) + g)), .val (.int z2), .unset, .unset] [(.double x), (.int ((((Int32.ofNat (n / 128)).toInt64).toInt32) + g)), (.ref o)])) rfl (by rw [hml]; rfl) (Steps.refl _) (argsL := [(.int ((((Int32.ofNat (n / 128)).toInt64).toInt32) + g)), (.double x)]) (rest := []) (lenOf own_lpd3 rfl) rfl (by show 2 * 0 + _ ≤ _; exact Nat.le_of_eq rfl) (hb hby at_228) (fun _ _ => ⟨rfl, e1, (by decide : 1 + 0 + 0 ≤ _), (by decide : 4 + 0 + 0 ≤ _)⟩)
  dsimp only [Pt.U, Pt.locs, Pt.cells, Pt.slots] at X2 l2 y2 z2 st2 hQ2
  subst l2 y2 z2
  obtain ⟨rfl, N2, K2, F2⟩ := hQ2
  have N2 := Fr.app N1 N2
  have Z2 : n0 ≤ T2.heap.size := Nat.le_trans Z0 K2.1
  have O2 : Old Z n0 T2.heap := O.keep K2 (allS go all0)
  obtain ⟨_, _, ⟨T3, L3, k3, n3⟩, -, X3, ⟨Lc3, hQ3, l3, y3, z3⟩, st3⟩ := Jvm.LawKit.callS X2 hx (y := (⟨"com/example/herring/herring/sim/FlowCapacitySetCarsPerSecondPinLaw", "piece", "(II)J"⟩ : MethodName)) hown (mvT hZ (hw _ (List.mem_of_getElem? (i := 86) rfl))) (mvT hZ (hw _ (List.mem_of_getElem? (i := 87) rfl))) (mvT hZ (hw _ (List.mem_of_getElem? (i := 12) rfl))) (mvT hZ (hw _ (List.mem_of_getElem? (i := 88) rfl))) (by decide) (backOf (W := 2) (own_piece l Z a0 hw [] s2 u1 T2.heap n0 Z2) hZ (hw _ (List.mem_of_getElem? (i := 88) rfl)) (hw _ (List.mem_of_getElem? (i := 12) rfl)) (by decide) (by decide)) (g := (mkF m 251 #[.val (.int v0), .val (.int v1), .val (.int v2), .val (.int v3), .val (.int t), .val (.int u1), .val (.int u2), .val (.int k), .val (.int g), .val (.int s1), .val (.int s2), .val (.int s3), .val (.ref o), .val (.long J), .second, .val (.int D), .val (.int ((((Int32.ofNat (n / 128)).toInt64).toInt32) + g)), .val (.int z2), .unset, .unset] [(.int u1), (.int s2), (.long J)])) rfl (by rw [hml]; rfl) (argsL := [(.int s2), (.int u1)]) (rest := [(.long J)]) (lenOf own_lpd5 rfl) rfl (by show 2 * 0 + _ ≤ _; exact Nat.le_of_eq rfl) (hb hby at_251) (fun _ _ => ⟨rfl, rfl, (by decide : 1 + 0 + 0 + 0 ≤ _), (by decide : 4 + 0 + 0 + 0 ≤ _)⟩)
  dsimp only [Pt.U, Pt.locs, Pt.cells, Pt.slots] at X3 l3 y3 z3 st3 hQ3
  subst l3 y3 z3
  obtain ⟨rfl, N3, e3⟩ := hQ3
  have N3 := Fr.app N2 N3
  refine ⟨T3, T2.heap, _, X3, e3, N3, Z2, O2, F2, fun target k' => ?_⟩
  show Steps p.tables e below (T.setTop (mkF m 200 #[.val (.int v0), .val (.int v1), .val (.int v2), .val (.int v3), .val (.int t), .val (.int u1), .val (.int u2), .val (.int k), .val (.int g), .val (.int s1), .val (.int s2), .val (.int s3), .val (.ref o), .val (.long J), .second, .val (.int D), .val (.int z1), .val (.int z2), .unset, .unset] [])) _
  refine XS.iload X.here hx rfl (hb hby at_200) rfl ?_
  show Steps p.tables e below (T.setTop (mkF m 202 #[.val (.int v0), .val (.int v1), .val (.int v2), .val (.int v3), .val (.int t), .val (.int u1), .val (.int u2), .val (.int k), .val (.int g), .val (.int s1), .val (.int s2), .val (.int s3), .val (.ref o), .val (.long J), .second, .val (.int D), .val (.int z1), .val (.int z2), .unset, .unset] [(.int k)])) _
  refine XT.iconstV X.here hx rfl 3 (hb hby at_202) rfl ?_
  show Steps p.tables e below (T.setTop (mkF m 203 #[.val (.int v0), .val (.int v1), .val (.int v2), .val (.int v3), .val (.int t), .val (.int u1), .val (.int u2), .val (.int k), .val (.int g), .val (.int s1), .val (.int s2), .val (.int s3), .val (.ref o), .val (.long J), .second, .val (.int D), .val (.int z1), .val (.int z2), .unset, .unset] [(.int 3), (.int k)])) _
  refine XS.icmpNo X.here hx rfl (hb hby at_203) rfl (XT.ii_lt_f hk) ?_
  show Steps p.tables e below (T.setTop (mkF m 206 #[.val (.int v0), .val (.int v1), .val (.int v2), .val (.int v3), .val (.int t), .val (.int u1), .val (.int u2), .val (.int k), .val (.int g), .val (.int s1), .val (.int s2), .val (.int s3), .val (.ref o), .val (.long J), .second, .val (.int D), .val (.int z1), .val (.int z2), .unset, .unset] [])) _
  refine XS.aload X.here hx rfl (hb hby at_206) rfl rfl ?_
  show Steps p.tables e below (T.setTop (mkF m 208 #[.val (.int v0), .val (.int v1), .val (.int v2), .val (.int v3), .val (.int t), .val (.int u1), .val (.int u2), .val (.int k), .val (.int g), .val (.int s1), .val (.int s2), .val (.int s3), .val (.ref o), .val (.long J), .second, .val (.int D), .val (.int z1), .val (.int z2), .unset, .unset] [(.ref o)])) _
  refine st1.trans ?_
  show Steps p.tables e below (T1.setTop (mkF m 211 #[.val (.int v0), .val (.int v1), .val (.int v2), .val (.int v3), .val (.int t), .val (.int u1), .val (.int u2), .val (.int k), .val (.int g), .val (.int s1), .val (.int s2), .val (.int s3), .val (.ref o), .val (.long J), .second, .val (.int D), .val (.int z1), .val (.int z2), .unset, .unset] [(.long ((Int32.ofNat (n / 128)).toInt64))])) _
  refine XT.l2i X1.here hx rfl (hb hby at_211) rfl ?_
  show Steps p.tables e below (T1.setTop (mkF m 212 #[.val (.int v0), .val (.int v1), .val (.int v2), .val (.int v3), .val (.int t), .val (.int u1), .val (.int u2), .val (.int k), .val (.int g), .val (.int s1), .val (.int s2), .val (.int s3), .val (.ref o), .val (.long J), .second, .val (.int D), .val (.int z1), .val (.int z2), .unset, .unset] [(.int (((Int32.ofNat (n / 128)).toInt64).toInt32))])) _
  refine XS.iload X1.here hx rfl (hb hby at_212) rfl ?_
  show Steps p.tables e below (T1.setTop (mkF m 214 #[.val (.int v0), .val (.int v1), .val (.int v2), .val (.int v3), .val (.int t), .val (.int u1), .val (.int u2), .val (.int k), .val (.int g), .val (.int s1), .val (.int s2), .val (.int s3), .val (.ref o), .val (.long J), .second, .val (.int D), .val (.int z1), .val (.int z2), .unset, .unset] [(.int g), (.int (((Int32.ofNat (n / 128)).toInt64).toInt32))])) _
  refine XS.iadd X1.here hx rfl (hb hby at_214) rfl ?_
  show Steps p.tables e below (T1.setTop (mkF m 215 #[.val (.int v0), .val (.int v1), .val (.int v2), .val (.int v3), .val (.int t), .val (.int u1), .val (.int u2), .val (.int k), .val (.int g), .val (.int s1), .val (.int s2), .val (.int s3), .val (.ref o), .val (.long J), .second, .val (.int D), .val (.int z1), .val (.int z2), .unset, .unset] [(.int ((((Int32.ofNat (n / 128)).toInt64).toInt32) + g))])) _
  refine XS.istore X1.here hx rfl (hb hby at_215) rfl rfl ?_
  show Steps p.tables e below (T1.setTop (mkF m 217 #[.val (.int v0), .val (.int v1), .val (.int v2), .val (.int v3), .val (.int t), .val (.int u1), .val (.int u2), .val (.int k), .val (.int g), .val (.int s1), .val (.int s2), .val (.int s3), .val (.ref o), .val (.long J), .second, .val (.int D), .val (.int ((((Int32.ofNat (n / 128)).toInt64).toInt32) + g)), .val (.int z2), .unset, .unset] [])) _
  refine XS.aload X1.here hx rfl (hb hby at_217) rfl rfl ?_
  show Steps p.tables e below (T1.setTop (mkF m 219 #[.val (.int v0), .val (.int v1), .val (.int v2), .val (.int v3), .val (.int t), .val (.int u1), .val (.int u2), .val (.int k), .val (.int g), .val (.int s1), .val (.int s2), .val (.int s3), .val (.ref o), .val (.long J), .second, .val (.int D), .val (.int ((((Int32.ofNat (n / 128)).toInt64).toInt32) + g)), .val (.int z2), .unset, .unset] [(.ref o)])) _
  refine XS.iload X1.here hx rfl (hb hby at_219) rfl ?_
  show Steps p.tables e below (T1.setTop (mkF m 221 #[.val (.int v0), .val (.int v1), .val (.int v2), .val (.int v3), .val (.int t), .val (.int u1), .val (.int u2), .val (.int k), .val (.int g), .val (.int s1), .val (.int s2), .val (.int s3), .val (.ref o), .val (.long J), .second, .val (.int D), .val (.int ((((Int32.ofNat (n / 128)).toInt64).toInt32) + g)), .val (.int z2), .unset, .unset] [(.int ((((Int32.ofNat (n / 128)).toInt64).toInt32) + g)), (.ref o)])) _
  refine XS.iload X1.here hx rfl (hb hby at_221) rfl ?_
  show Steps p.tables e below (T1.setTop (mkF m 223 #[.val (.int v0), .val (.int v1), .val (.int v2), .val (.int v3), .val (.int t), .val (.int u1), .val (.int u2), .val (.int k), .val (.int g), .val (.int s1), .val (.int s2), .val (.int s3), .val (.ref o), .val (.long J), .second, .val (.int D), .val (.int ((((Int32.ofNat (n / 128)).toInt64).toInt32) + g)), .val (.int z2), .unset, .unset] [(.int s3), (.int ((((Int32.ofNat (n / 128)).toInt64).toInt32) + g)), (.ref o)])) _
  refine XS.i2dS X1.here hx rfl (hb hby at_223) rfl rfl ?_
  show Steps p.tables e below (T1.setTop (mkF m 224 #[.val (.int v0), .val (.int v1), .val (.int v2), .val (.int v3), .val (.int t), .val (.int u1), .val (.int u2), .val (.int k), .val (.int g), .val (.int s1), .val (.int s2), .val (.int s3), .val (.ref o), .val (.long J), .second, .val (.int D), .val (.int ((((Int32.ofNat (n / 128)).toInt64).toInt32) + g)), .val (.int z2), .unset, .unset] [(.double (FP.i2d s3)), (.int ((((Int32.ofNat (n / 128)).toInt64).toInt32) + g)), (.ref o)])) _
  refine X1.ldc2DoubleC hx hown (mvT hZ (hw _ (List.mem_of_getElem? (i := 14) rfl))) (g := (mkF m 224 #[.val (.int v0), .val (.int v1), .val (.int v2), .val (.int v3), .val (.int t), .val (.int u1), .val (.int u2), .val (.int k), .val (.int g), .val (.int s1), .val (.int s2), .val (.int s3), .val (.ref o), .val (.long J), .second, .val (.int D), .val (.int ((((Int32.ofNat (n / 128)).toInt64).toInt32) + g)), .val (.int z2), .unset, .unset] [(.double (FP.i2d s3)), (.int ((((Int32.ofNat (n / 128)).toInt64).toInt32) + g)), (.ref o)])) rfl (hb hby at_224) _ ?_
  show Steps p.tables e below (T1.setTop (mkF m 227 #[.val (.int v0), .val (.int v1), .val (.int v2), .val (.int v3), .val (.int t), .val (.int u1), .val (.int u2), .val (.int k), .val (.int g), .val (.int s1), .val (.int s2), .val (.int s3), .val (.ref o), .val (.long J), .second, .val (.int D), .val (.int ((((Int32.ofNat (n / 128)).toInt64).toInt32) + g)), .val (.int z2), .unset, .unset] [(.double 4598175219545276416), (.double (FP.i2d s3)), (.int ((((Int32.ofNat (n / 128)).toInt64).toInt32) + g)), (.ref o)])) _
  refine XS.dmulS X1.here hx rfl (hb hby at_227) rfl (by rw [hxs]; exact hxn) hxs ?_
  show Steps p.tables e below (T1.setTop (mkF m 228 #[.val (.int v0), .val (.int v1), .val (.int v2), .val (.int v3), .val (.int t), .val (.int u1), .val (.int u2), .val (.int k), .val (.int g), .val (.int s1), .val (.int s2), .val (.int s3), .val (.ref o), .val (.long J), .second, .val (.int D), .val (.int ((((Int32.ofNat (n / 128)).toInt64).toInt32) + g)), .val (.int z2), .unset, .unset] [(.double x), (.int ((((Int32.ofNat (n / 128)).toInt64).toInt32) + g)), (.ref o)])) _
  refine st2.trans ?_
  show Steps p.tables e below (T2.setTop (mkF m 231 #[.val (.int v0), .val (.int v1), .val (.int v2), .val (.int v3), .val (.int t), .val (.int u1), .val (.int u2), .val (.int k), .val (.int g), .val (.int s1), .val (.int s2), .val (.int s3), .val (.ref o), .val (.long J), .second, .val (.int D), .val (.int ((((Int32.ofNat (n / 128)).toInt64).toInt32) + g)), .val (.int z2), .unset, .unset] [])) _
  refine XS.iload X2.here hx rfl (hb hby at_231) rfl ?_
  show Steps p.tables e below (T2.setTop (mkF m 233 #[.val (.int v0), .val (.int v1), .val (.int v2), .val (.int v3), .val (.int t), .val (.int u1), .val (.int u2), .val (.int k), .val (.int g), .val (.int s1), .val (.int s2), .val (.int s3), .val (.ref o), .val (.long J), .second, .val (.int D), .val (.int ((((Int32.ofNat (n / 128)).toInt64).toInt32) + g)), .val (.int z2), .unset, .unset] [(.int g)])) _
  refine XS.ifYes X2.here hx rfl rfl (hb hby at_233) rfl (XT.i0_le_t hg) (show (0 : Int) ≤ ((233 : Nat) : Int) + (12) by decide) (show (((233 : Nat) : Int) + (12)).toNat = 245 by decide) ?_
  show Steps p.tables e below (T2.setTop (mkF m 245 #[.val (.int v0), .val (.int v1), .val (.int v2), .val (.int v3), .val (.int t), .val (.int u1), .val (.int u2), .val (.int k), .val (.int g), .val (.int s1), .val (.int s2), .val (.int s3), .val (.ref o), .val (.long J), .second, .val (.int D), .val (.int ((((Int32.ofNat (n / 128)).toInt64).toInt32) + g)), .val (.int z2), .unset, .unset] [])) _
  refine XT.lload X2.here hx rfl (hb hby at_245) rfl ?_
  show Steps p.tables e below (T2.setTop (mkF m 247 #[.val (.int v0), .val (.int v1), .val (.int v2), .val (.int v3), .val (.int t), .val (.int u1), .val (.int u2), .val (.int k), .val (.int g), .val (.int s1), .val (.int s2), .val (.int s3), .val (.ref o), .val (.long J), .second, .val (.int D), .val (.int ((((Int32.ofNat (n / 128)).toInt64).toInt32) + g)), .val (.int z2), .unset, .unset] [(.long J)])) _
  refine XS.iload X2.here hx rfl (hb hby at_247) rfl ?_
  show Steps p.tables e below (T2.setTop (mkF m 249 #[.val (.int v0), .val (.int v1), .val (.int v2), .val (.int v3), .val (.int t), .val (.int u1), .val (.int u2), .val (.int k), .val (.int g), .val (.int s1), .val (.int s2), .val (.int s3), .val (.ref o), .val (.long J), .second, .val (.int D), .val (.int ((((Int32.ofNat (n / 128)).toInt64).toInt32) + g)), .val (.int z2), .unset, .unset] [(.int s2), (.long J)])) _
  refine XS.iload X2.here hx rfl (hb hby at_249) rfl ?_
  show Steps p.tables e below (T2.setTop (mkF m 251 #[.val (.int v0), .val (.int v1), .val (.int v2), .val (.int v3), .val (.int t), .val (.int u1), .val (.int u2), .val (.int k), .val (.int g), .val (.int s1), .val (.int s2), .val (.int s3), .val (.ref o), .val (.long J), .second, .val (.int D), .val (.int ((((Int32.ofNat (n / 128)).toInt64).toInt32) + g)), .val (.int z2), .unset, .unset] [(.int u1), (.int s2), (.long J)])) _
  refine st3 _ ?_
  show Steps p.tables e below (T3.setTop (mkF m 254 #[.val (.int v0), .val (.int v1), .val (.int v2), .val (.int v3), .val (.int t), .val (.int u1), .val (.int u2), .val (.int k), .val (.int g), .val (.int s1), .val (.int s2), .val (.int s3), .val (.ref o), .val (.long J), .second, .val (.int D), .val (.int ((((Int32.ofNat (n / 128)).toInt64).toInt32) + g)), .val (.int z2), .unset, .unset] [(.long (s2.toInt64 <<< ((6 - u1).toInt64 &&& 63))), (.long J)])) _
  refine XT.ladd X3.here hx rfl (hb hby at_254) rfl ?_
  show Steps p.tables e below (T3.setTop (mkF m 255 #[.val (.int v0), .val (.int v1), .val (.int v2), .val (.int v3), .val (.int t), .val (.int u1), .val (.int u2), .val (.int k), .val (.int g), .val (.int s1), .val (.int s2), .val (.int s3), .val (.ref o), .val (.long J), .second, .val (.int D), .val (.int ((((Int32.ofNat (n / 128)).toInt64).toInt32) + g)), .val (.int z2), .unset, .unset] [(.long (J + (s2.toInt64 <<< ((6 - u1).toInt64 &&& 63))))])) _
  refine XT.lstore X3.here hx rfl (hb hby at_255) rfl rfl ?_
  show Steps p.tables e below (T3.setTop (mkF m 257 #[.val (.int v0), .val (.int v1), .val (.int v2), .val (.int v3), .val (.int t), .val (.int u1), .val (.int u2), .val (.int k), .val (.int g), .val (.int s1), .val (.int s2), .val (.int s3), .val (.ref o), .val (.long (J + (s2.toInt64 <<< ((6 - u1).toInt64 &&& 63)))), .second, .val (.int D), .val (.int ((((Int32.ofNat (n / 128)).toInt64).toInt32) + g)), .val (.int z2), .unset, .unset] [])) _
  refine XS.iload X3.here hx rfl (hb hby at_257) rfl ?_
  show Steps p.tables e below (T3.setTop (mkF m 259 #[.val (.int v0), .val (.int v1), .val (.int v2), .val (.int v3), .val (.int t), .val (.int u1), .val (.int u2), .val (.int k), .val (.int g), .val (.int s1), .val (.int s2), .val (.int s3), .val (.ref o), .val (.long (J + (s2.toInt64 <<< ((6 - u1).toInt64 &&& 63)))), .second, .val (.int D), .val (.int ((((Int32.ofNat (n / 128)).toInt64).toInt32) + g)), .val (.int z2), .unset, .unset] [(.int s3)])) _
  refine XS.istore X3.here hx rfl (hb hby at_259) rfl rfl ?_
  show Steps p.tables e below (T3.setTop (mkF m 261 #[.val (.int v0), .val (.int v1), .val (.int v2), .val (.int v3), .val (.int t), .val (.int u1), .val (.int u2), .val (.int k), .val (.int g), .val (.int s1), .val (.int s2), .val (.int s3), .val (.ref o), .val (.long (J + (s2.toInt64 <<< ((6 - u1).toInt64 &&& 63)))), .second, .val (.int s3), .val (.int ((((Int32.ofNat (n / 128)).toInt64).toInt32) + g)), .val (.int z2), .unset, .unset] [])) _
  exact k'
set_option maxRecDepth 65536 in
set_option maxHeartbeats 40000000 in
theorem own_s5u (X : Stand p l e room_1 s m args below meth c T locs 1 4) (hx : p.tables.exec = Jvm.exec) (hZ : Z.Warmed39 s.vm) (hw : ∀ d ∈ tables_1, d.before a0 Z = true) (hby : c.code = code) (hml : c.maxLocals = 20) (hown : s.vm.findClass "com/example/herring/herring/sim/FlowCapacitySetCarsPerSecondPinLaw" = some m.cls) (eT : T.heap = h) (N0 : Fr n0 locs) (Z0 : n0 ≤ h.size) (O : Old Z n0 h) (S0 : Sta Z Z.heap "java/lang/StrictMath" "$assertionsDisabled" "Z" (.int 1)) {v0 v1 v2 v3 t u1 u2 k g s1 s2 s3 : Int32}{o : Addr} {J : Int64} {D z1 z2 : Int32} (go : n0 ≤ o) {c1 c2 c3 c4 q2 r : UInt64} (F : own_FC Z h o c1 c2 c3 c4) (Hq2 : (u2 = 7 ∧ q2 = 0) ∨ (¬ u2 = 7 ∧ FP.dmul (FP.i2d ((1 : Int32) <<< (u2 &&& 31))) 4598175219545276416 = q2 ∧ NoNaN64 q2)) (H : (c3 = c4 ∧ r = c2 ∧ cmpValue (FP.dcmp c3 c4) .l = 0) ∨ ∃ d q, cmpValue (FP.dcmp c3 c4) .l = 1 ∧ FP.dsub c3 c4 = d ∧ NoNaN64 d ∧ FP.ddiv d c1 = q ∧ NoNaN64 q ∧ FP.dadd c2 q = r ∧ NoNaN64 r) :
    ∃ T' h' L', Stand p l e room_1 s m args below meth c T' L' 1 4 ∧ T'.heap = h' ∧ Fr n0 L' ∧ n0 ≤ h'.size ∧ Old Z n0 h' ∧ own_FC Z h' o q2 r c4 c4 ∧ ∀ target, Steps p.tables e below (T'.setTop (mkF m 271 #[.val (.int v0), .val (.int v1), .val (.int v2), .val (.int v3), .val (.int t), .val (.int u1), .val (.int u2), .val (.int k), .val (.int g), .val (.int s1), .val (.int s2), .val (.int s3), .val (.ref o), .val (.long J), .second, .val (.int D), .unset, .unset, .unset, .unset] [])) target → Steps p.tables e below (T.setTop (mkF m 261 #[.val (.int v0), .val (.int v1), .val (.int v2), .val (.int v3), .val (.int t), .val (.int u1), .val (.int u2), .val (.int k), .val (.int g), .val (.int s1), .val (.int s2), .val (.int s3), .val (.ref o), .val (.long J), .second, .val (.int D), .unset, .unset, .unset, .unset] [])) target := by
  obtain ⟨_, _, ⟨T1, L1, k1, n1⟩, -, X1, ⟨Lc1, hQ1, l1, y1, z1⟩, st1⟩ := Jvm.LawKit.callS X hx (y := (⟨"com/example/herring/herring/sim/FlowCapacitySetCarsPerSecondPinLaw", "rate", "(I)D"⟩ : MethodName)) hown (mvT hZ (hw _ (List.mem_of_getElem? (i := 10) rfl))) (mvT hZ (hw _ (List.mem_of_getElem? (i := 11) rfl))) (mvT hZ (hw _ (List.mem_of_getElem? (i := 12) rfl))) (mvT hZ (hw _ (List.mem_of_getElem? (i := 13) rfl))) (by decide) (backOf (W := 1) (own_rateA l Z a0 hw [] u2 q2 Hq2 h n0 Z0) hZ (hw _ (List.mem_of_getElem? (i := 13) rfl)) (hw _ (List.mem_of_getElem? (i := 12) rfl)) (by decide) (by decide)) (g := (mkF m 265 #[.val (.int v0), .val (.int v1), .val (.int v2), .val (.int v3), .val (.int t), .val (.int u1), .val (.int u2), .val (.int k), .val (.int g), .val (.int s1), .val (.int s2), .val (.int s3), .val (.ref o), .val (.long J), .second, .val (.int D), .unset, .unset, .unset, .unset] [(.int u2), (.ref o)])) rfl (by rw [hml]; rfl) (argsL := [(.int u2)]) (rest := [(.ref o)]) (lenOf own_lpd1 rfl) rfl (by show 2 * 0 + _ ≤ _; exact Nat.le_of_eq rfl) (hb hby at_265) (fun _ _ => ⟨rfl, eT, (by decide : 1 + 0 ≤ _), (by decide : 4 + 0 ≤ _)⟩)
  dsimp only [Pt.U, Pt.locs, Pt.cells, Pt.slots] at X1 l1 y1 z1 st1 hQ1
  subst l1 y1 z1
  obtain ⟨rfl, N1, e1⟩ := hQ1
  have N1 := Fr.app N0 N1
  obtain ⟨cq2, kq2, q2a, q2b, q2c⟩ := isOf hZ e1 F.1
  obtain ⟨_, _, ⟨T2, L2, k2, n2⟩, -, X2, ⟨Lc2, hQ2, l2, y2, z2⟩, st2⟩ := X1.virtualBack hx (y := (⟨"com/example/herring/herring/sim/FlowCapacity", "setCarsPerSecond", "(D)V"⟩ : MethodName)) (z := (⟨"com/example/herring/herring/sim/FlowCapacity", "setCarsPerSecond", "(D)V"⟩ : MethodName)) hown (mvT hZ (hw _ (List.mem_of_getElem? (i := 15) rfl))) (mvT hZ (hw _ (List.mem_of_getElem? (i := 16) rfl))) (notFace_of_selects (args := #[]) (mvT hZ (hw _ (List.mem_of_getElem? (i := 18) rfl)))) (mvT hZ (hw _ (List.mem_of_getElem? (i := 18) rfl))) (mvT hZ (hw _ (List.mem_of_getElem? (i := 17) rfl))) (by decide) (backOf (W := 0) (own_setA l Z a0 hw [] o q2 c1 c2 c3 c4 r H h n0 Z0 F go) hZ (hw _ (List.mem_of_getElem? (i := 19) rfl)) (hw _ (List.mem_of_getElem? (i := 3) rfl)) (by decide) (by decide)) q2a q2c (g := (mkF m 268 #[.val (.int v0), .val (.int v1), .val (.int v2), .val (.int v3), .val (.int t), .val (.int u1), .val (.int u2), .val (.int k), .val (.int g), .val (.int s1), .val (.int s2), .val (.int s3), .val (.ref o), .val (.long J), .second, .val (.int D), .unset, .unset, .unset, .unset] [(.double q2), (.ref o)])) rfl (by rw [hml]; rfl) (Steps.refl _) (argsL := [(.double q2)]) (rest := []) (lenOf own_lpd2 rfl) rfl (by show 2 * 0 + _ ≤ _; exact Nat.le_of_eq rfl) (hb hby at_268) (fun _ _ => ⟨rfl, e1, (by decide : 1 + 0 + 0 ≤ _), (by decide : 4 + 0 + 0 ≤ _)⟩)
  dsimp only [Pt.U, Pt.locs, Pt.cells, Pt.slots] at X2 l2 y2 z2 st2 hQ2
  subst l2 y2 z2
  obtain ⟨rfl, N2, K2, F2⟩ := hQ2
  have N2 := Fr.app N1 N2
  have Z2 : n0 ≤ T2.heap.size := Nat.le_trans Z0 K2.1
  have O2 : Old Z n0 T2.heap := O.keep K2 (allS go all0)
  refine ⟨T2, T2.heap, _, X2, rfl, N2, Z2, O2, F2, fun target k' => ?_⟩
  show Steps p.tables e below (T.setTop (mkF m 261 #[.val (.int v0), .val (.int v1), .val (.int v2), .val (.int v3), .val (.int t), .val (.int u1), .val (.int u2), .val (.int k), .val (.int g), .val (.int s1), .val (.int s2), .val (.int s3), .val (.ref o), .val (.long J), .second, .val (.int D), .unset, .unset, .unset, .unset] [])) _
  refine XS.aload X.here hx rfl (hb hby at_261) rfl rfl ?_
  show Steps p.tables e below (T.setTop (mkF m 263 #[.val (.int v0), .val (.int v1), .val (.int v2), .val (.int v3), .val (.int t), .val (.int u1), .val (.int u2), .val (.int k), .val (.int g), .val (.int s1), .val (.int s2), .val (.int s3), .val (.ref o), .val (.long J), .second, .val (.int D), .unset, .unset, .unset, .unset] [(.ref o)])) _
  refine XS.iload X.here hx rfl (hb hby at_263) rfl ?_
  show Steps p.tables e below (T.setTop (mkF m 265 #[.val (.int v0), .val (.int v1), .val (.int v2), .val (.int v3), .val (.int t), .val (.int u1), .val (.int u2), .val (.int k), .val (.int g), .val (.int s1), .val (.int s2), .val (.int s3), .val (.ref o), .val (.long J), .second, .val (.int D), .unset, .unset, .unset, .unset] [(.int u2), (.ref o)])) _
  refine st1 _ ?_
  show Steps p.tables e below (T1.setTop (mkF m 268 #[.val (.int v0), .val (.int v1), .val (.int v2), .val (.int v3), .val (.int t), .val (.int u1), .val (.int u2), .val (.int k), .val (.int g), .val (.int s1), .val (.int s2), .val (.int s3), .val (.ref o), .val (.long J), .second, .val (.int D), .unset, .unset, .unset, .unset] [(.double q2), (.ref o)])) _
  refine st2.trans ?_
  show Steps p.tables e below (T2.setTop (mkF m 271 #[.val (.int v0), .val (.int v1), .val (.int v2), .val (.int v3), .val (.int t), .val (.int u1), .val (.int u2), .val (.int k), .val (.int g), .val (.int s1), .val (.int s2), .val (.int s3), .val (.ref o), .val (.long J), .second, .val (.int D), .unset, .unset, .unset, .unset] [])) _
  exact k'
set_option maxRecDepth 65536 in
set_option maxHeartbeats 40000000 in
theorem own_s5i (X : Stand p l e room_1 s m args below meth c T locs 1 4) (hx : p.tables.exec = Jvm.exec) (hZ : Z.Warmed39 s.vm) (hw : ∀ d ∈ tables_1, d.before a0 Z = true) (hby : c.code = code) (hml : c.maxLocals = 20) (hown : s.vm.findClass "com/example/herring/herring/sim/FlowCapacitySetCarsPerSecondPinLaw" = some m.cls) (eT : T.heap = h) (N0 : Fr n0 locs) (Z0 : n0 ≤ h.size) (O : Old Z n0 h) (S0 : Sta Z Z.heap "java/lang/StrictMath" "$assertionsDisabled" "Z" (.int 1)) {v0 v1 v2 v3 t u1 u2 k g s1 s2 s3 : Int32}{o : Addr} {J : Int64} {D z1 z2 : Int32} (go : n0 ≤ o) {c1 c2 c3 c4 q2 r : UInt64} (F : own_FC Z h o c1 c2 c3 c4) (Hq2 : (u2 = 7 ∧ q2 = 0) ∨ (¬ u2 = 7 ∧ FP.dmul (FP.i2d ((1 : Int32) <<< (u2 &&& 31))) 4598175219545276416 = q2 ∧ NoNaN64 q2)) (H : (c3 = c4 ∧ r = c2 ∧ cmpValue (FP.dcmp c3 c4) .l = 0) ∨ ∃ d q, cmpValue (FP.dcmp c3 c4) .l = 1 ∧ FP.dsub c3 c4 = d ∧ NoNaN64 d ∧ FP.ddiv d c1 = q ∧ NoNaN64 q ∧ FP.dadd c2 q = r ∧ NoNaN64 r) :
    ∃ T' h' L', Stand p l e room_1 s m args below meth c T' L' 1 4 ∧ T'.heap = h' ∧ Fr n0 L' ∧ n0 ≤ h'.size ∧ Old Z n0 h' ∧ own_FC Z h' o q2 r c4 c4 ∧ ∀ target, Steps p.tables e below (T'.setTop (mkF m 271 #[.val (.int v0), .val (.int v1), .val (.int v2), .val (.int v3), .val (.int t), .val (.int u1), .val (.int u2), .val (.int k), .val (.int g), .val (.int s1), .val (.int s2), .val (.int s3), .val (.ref o), .val (.long J), .second, .val (.int D), .val (.int z1), .val (.int z2), .unset, .unset] [])) target → Steps p.tables e below (T.setTop (mkF m 261 #[.val (.int v0), .val (.int v1), .val (.int v2), .val (.int v3), .val (.int t), .val (.int u1), .val (.int u2), .val (.int k), .val (.int g), .val (.int s1), .val (.int s2), .val (.int s3), .val (.ref o), .val (.long J), .second, .val (.int D), .val (.int z1), .val (.int z2), .unset, .unset] [])) target := by
  obtain ⟨_, _, ⟨T1, L1, k1, n1⟩, -, X1, ⟨Lc1, hQ1, l1, y1, z1⟩, st1⟩ := Jvm.LawKit.callS X hx (y := (⟨"com/example/herring/herring/sim/FlowCapacitySetCarsPerSecondPinLaw", "rate", "(I)D"⟩ : MethodName)) hown (mvT hZ (hw _ (List.mem_of_getElem? (i := 10) rfl))) (mvT hZ (hw _ (List.mem_of_getElem? (i := 11) rfl))) (mvT hZ (hw _ (List.mem_of_getElem? (i := 12) rfl))) (mvT hZ (hw _ (List.mem_of_getElem? (i := 13) rfl))) (by decide) (backOf (W := 1) (own_rateA l Z a0 hw [] u2 q2 Hq2 h n0 Z0) hZ (hw _ (List.mem_of_getElem? (i := 13) rfl)) (hw _ (List.mem_of_getElem? (i := 12) rfl)) (by decide) (by decide)) (g := (mkF m 265 #[.val (.int v0), .val (.int v1), .val (.int v2), .val (.int v3), .val (.int t), .val (.int u1), .val (.int u2), .val (.int k), .val (.int g), .val (.int s1), .val (.int s2), .val (.int s3), .val (.ref o), .val (.long J), .second, .val (.int D), .val (.int z1), .val (.int z2), .unset, .unset] [(.int u2), (.ref o)])) rfl (by rw [hml]; rfl) (argsL := [(.int u2)]) (rest := [(.ref o)]) (lenOf own_lpd1 rfl) rfl (by show 2 * 0 + _ ≤ _; exact Nat.le_of_eq rfl) (hb hby at_265) (fun _ _ => ⟨rfl, eT, (by decide : 1 + 0 ≤ _), (by decide : 4 + 0 ≤ _)⟩)
  dsimp only [Pt.U, Pt.locs, Pt.cells, Pt.slots] at X1 l1 y1 z1 st1 hQ1
  subst l1 y1 z1
  obtain ⟨rfl, N1, e1⟩ := hQ1
  have N1 := Fr.app N0 N1
  obtain ⟨cq2, kq2, q2a, q2b, q2c⟩ := isOf hZ e1 F.1
  obtain ⟨_, _, ⟨T2, L2, k2, n2⟩, -, X2, ⟨Lc2, hQ2, l2, y2, z2⟩, st2⟩ := X1.virtualBack hx (y := (⟨"com/example/herring/herring/sim/FlowCapacity", "setCarsPerSecond", "(D)V"⟩ : MethodName)) (z := (⟨"com/example/herring/herring/sim/FlowCapacity", "setCarsPerSecond", "(D)V"⟩ : MethodName)) hown (mvT hZ (hw _ (List.mem_of_getElem? (i := 15) rfl))) (mvT hZ (hw _ (List.mem_of_getElem? (i := 16) rfl))) (notFace_of_selects (args := #[]) (mvT hZ (hw _ (List.mem_of_getElem? (i := 18) rfl)))) (mvT hZ (hw _ (List.mem_of_getElem? (i := 18) rfl))) (mvT hZ (hw _ (List.mem_of_getElem? (i := 17) rfl))) (by decide) (backOf (W := 0) (own_setA l Z a0 hw [] o q2 c1 c2 c3 c4 r H h n0 Z0 F go) hZ (hw _ (List.mem_of_getElem? (i := 19) rfl)) (hw _ (List.mem_of_getElem? (i := 3) rfl)) (by decide) (by decide)) q2a q2c (g := (mkF m 268 #[.val (.int v0), .val (.int v1), .val (.int v2), .val (.int v3), .val (.int t), .val (.int u1), .val (.int u2), .val (.int k), .val (.int g), .val (.int s1), .val (.int s2), .val (.int s3), .val (.ref o), .val (.long J), .second, .val (.int D), .val (.int z1), .val (.int z2), .unset, .unset] [(.double q2), (.ref o)])) rfl (by rw [hml]; rfl) (Steps.refl _) (argsL := [(.double q2)]) (rest := []) (lenOf own_lpd2 rfl) rfl (by show 2 * 0 + _ ≤ _; exact Nat.le_of_eq rfl) (hb hby at_268) (fun _ _ => ⟨rfl, e1, (by decide : 1 + 0 + 0 ≤ _), (by decide : 4 + 0 + 0 ≤ _)⟩)
  dsimp only [Pt.U, Pt.locs, Pt.cells, Pt.slots] at X2 l2 y2 z2 st2 hQ2
  subst l2 y2 z2
  obtain ⟨rfl, N2, K2, F2⟩ := hQ2
  have N2 := Fr.app N1 N2
  have Z2 : n0 ≤ T2.heap.size := Nat.le_trans Z0 K2.1
  have O2 : Old Z n0 T2.heap := O.keep K2 (allS go all0)
  refine ⟨T2, T2.heap, _, X2, rfl, N2, Z2, O2, F2, fun target k' => ?_⟩
  show Steps p.tables e below (T.setTop (mkF m 261 #[.val (.int v0), .val (.int v1), .val (.int v2), .val (.int v3), .val (.int t), .val (.int u1), .val (.int u2), .val (.int k), .val (.int g), .val (.int s1), .val (.int s2), .val (.int s3), .val (.ref o), .val (.long J), .second, .val (.int D), .val (.int z1), .val (.int z2), .unset, .unset] [])) _
  refine XS.aload X.here hx rfl (hb hby at_261) rfl rfl ?_
  show Steps p.tables e below (T.setTop (mkF m 263 #[.val (.int v0), .val (.int v1), .val (.int v2), .val (.int v3), .val (.int t), .val (.int u1), .val (.int u2), .val (.int k), .val (.int g), .val (.int s1), .val (.int s2), .val (.int s3), .val (.ref o), .val (.long J), .second, .val (.int D), .val (.int z1), .val (.int z2), .unset, .unset] [(.ref o)])) _
  refine XS.iload X.here hx rfl (hb hby at_263) rfl ?_
  show Steps p.tables e below (T.setTop (mkF m 265 #[.val (.int v0), .val (.int v1), .val (.int v2), .val (.int v3), .val (.int t), .val (.int u1), .val (.int u2), .val (.int k), .val (.int g), .val (.int s1), .val (.int s2), .val (.int s3), .val (.ref o), .val (.long J), .second, .val (.int D), .val (.int z1), .val (.int z2), .unset, .unset] [(.int u2), (.ref o)])) _
  refine st1 _ ?_
  show Steps p.tables e below (T1.setTop (mkF m 268 #[.val (.int v0), .val (.int v1), .val (.int v2), .val (.int v3), .val (.int t), .val (.int u1), .val (.int u2), .val (.int k), .val (.int g), .val (.int s1), .val (.int s2), .val (.int s3), .val (.ref o), .val (.long J), .second, .val (.int D), .val (.int z1), .val (.int z2), .unset, .unset] [(.double q2), (.ref o)])) _
  refine st2.trans ?_
  show Steps p.tables e below (T2.setTop (mkF m 271 #[.val (.int v0), .val (.int v1), .val (.int v2), .val (.int v3), .val (.int t), .val (.int u1), .val (.int u2), .val (.int k), .val (.int g), .val (.int s1), .val (.int s2), .val (.int s3), .val (.ref o), .val (.long J), .second, .val (.int D), .val (.int z1), .val (.int z2), .unset, .unset] [])) _
  exact k'
set_option maxRecDepth 65536 in
set_option maxHeartbeats 40000000 in
theorem own_s6u7 (X : Stand p l e room_1 s m args below meth c T locs 1 4) (hx : p.tables.exec = Jvm.exec) (hZ : Z.Warmed39 s.vm) (hw : ∀ d ∈ tables_1, d.before a0 Z = true) (hby : c.code = code) (hml : c.maxLocals = 20) (hown : s.vm.findClass "com/example/herring/herring/sim/FlowCapacitySetCarsPerSecondPinLaw" = some m.cls) (eT : T.heap = h) (N0 : Fr n0 locs) (Z0 : n0 ≤ h.size) (O : Old Z n0 h) (S0 : Sta Z Z.heap "java/lang/StrictMath" "$assertionsDisabled" "Z" (.int 1)) {v0 v1 v2 v3 t u1 u2 k g s1 s2 s3 : Int32}{o : Addr} {J : Int64} {D z1 z2 : Int32} (go : n0 ≤ o) {c1 c2 c3 c4 : UInt64} (F : own_FC Z h o c1 c2 c3 c4) (h7 : u2 = 7) (hc0 : cmpValue (FP.dcmp c1 0) .l = 0) :
    ∃ T' h' L', Stand p l e room_1 s m args below meth c T' L' 1 4 ∧ T'.heap = h' ∧ Fr n0 L' ∧ n0 ≤ h'.size ∧ Old Z n0 h' ∧ ∀ target, Steps p.tables e below (T'.setTop (mkF m 321 #[.val (.int v0), .val (.int v1), .val (.int v2), .val (.int v3), .val (.int t), .val (.int u1), .val (.int u2), .val (.int k), .val (.int g), .val (.int s1), .val (.int s2), .val (.int s3), .val (.ref o), .val (.long J), .second, .val (.int D), .val (.long 9223372036854775807), .second, .val (.long 9223372036854775807), .second] [(.int 1)])) target → Steps p.tables e below (T.setTop (mkF m 271 #[.val (.int v0), .val (.int v1), .val (.int v2), .val (.int v3), .val (.int t), .val (.int u1), .val (.int u2), .val (.int k), .val (.int g), .val (.int s1), .val (.int s2), .val (.int s3), .val (.ref o), .val (.long J), .second, .val (.int D), .unset, .unset, .unset, .unset] [])) target := by
  obtain ⟨cq1, kq1, q1a, q1b, q1c⟩ := isOf hZ eT F.1
  obtain ⟨_, _, ⟨T1, L1, k1, n1⟩, -, X1, ⟨Lc1, hQ1, l1, y1, z1⟩, st1⟩ := X.virtualBack hx (y := (⟨"com/example/herring/herring/sim/FlowCapacity", "nextSecond", "()J"⟩ : MethodName)) (z := (⟨"com/example/herring/herring/sim/FlowCapacity", "nextSecond", "()J"⟩ : MethodName)) hown (mvT hZ (hw _ (List.mem_of_getElem? (i := 78) rfl))) (mvT hZ (hw _ (List.mem_of_getElem? (i := 32) rfl))) (notFace_of_selects (args := #[]) (mvT hZ (hw _ (List.mem_of_getElem? (i := 34) rfl)))) (mvT hZ (hw _ (List.mem_of_getElem? (i := 34) rfl))) (mvT hZ (hw _ (List.mem_of_getElem? (i := 33) rfl))) (by decide) (backOf (W := 0) (own_nextZ l Z a0 hw [] o c1 c2 c3 c4 hc0 h n0 Z0 F) hZ (hw _ (List.mem_of_getElem? (i := 35) rfl)) (hw _ (List.mem_of_getElem? (i := 3) rfl)) (by decide) (by decide)) q1a q1c (g := (mkF m 273 #[.val (.int v0), .val (.int v1), .val (.int v2), .val (.int v3), .val (.int t), .val (.int u1), .val (.int u2), .val (.int k), .val (.int g), .val (.int s1), .val (.int s2), .val (.int s3), .val (.ref o), .val (.long J), .second, .val (.int D), .unset, .unset, .unset, .unset] [(.ref o)])) rfl (by rw [hml]; rfl) (Steps.refl _) (argsL := []) (rest := []) (lenOf own_lpd4 rfl) rfl (by show 2 * 0 + _ ≤ _; exact Nat.le_of_eq rfl) (hb hby at_273) (fun _ _ => ⟨rfl, eT, (by decide : 1 + 0 ≤ _), (by decide : 4 + 0 ≤ _)⟩)
  dsimp only [Pt.U, Pt.locs, Pt.cells, Pt.slots] at X1 l1 y1 z1 st1 hQ1
  subst l1 y1 z1
  obtain ⟨rfl, N1, e1⟩ := hQ1
  have N1 := Fr.app N0 N1
  refine ⟨T1, h, _, X1, e1, N1, Z0, O, fun target k' => ?_⟩
  show Steps p.tables e below (T.setTop (mkF m 271 #[.val (.int v0), .val (.int v1), .val (.int v2), .val (.int v3), .val (.int t), .val (.int u1), .val (.int u2), .val (.int k), .val (.int g), .val (.int s1), .val (.int s2), .val (.int s3), .val (.ref o), .val (.long J), .second, .val (.int D), .unset, .unset, .unset, .unset] [])) _
  refine XS.aload X.here hx rfl (hb hby at_271) rfl rfl ?_
  show Steps p.tables e below (T.setTop (mkF m 273 #[.val (.int v0), .val (.int v1), .val (.int v2), .val (.int v3), .val (.int t), .val (.int u1), .val (.int u2), .val (.int k), .val (.int g), .val (.int s1), .val (.int s2), .val (.int s3), .val (.ref o), .val (.long J), .second, .val (.int D), .unset, .unset, .unset, .unset] [(.ref o)])) _
  refine st1.trans ?_
  show Steps p.tables e below (T1.setTop (mkF m 276 #[.val (.int v0), .val (.int v1), .val (.int v2), .val (.int v3), .val (.int t), .val (.int u1), .val (.int u2), .val (.int k), .val (.int g), .val (.int s1), .val (.int s2), .val (.int s3), .val (.ref o), .val (.long J), .second, .val (.int D), .unset, .unset, .unset, .unset] [(.long 9223372036854775807)])) _
  refine XT.lstore X1.here hx rfl (hb hby at_276) rfl rfl ?_
  show Steps p.tables e below (T1.setTop (mkF m 278 #[.val (.int v0), .val (.int v1), .val (.int v2), .val (.int v3), .val (.int t), .val (.int u1), .val (.int u2), .val (.int k), .val (.int g), .val (.int s1), .val (.int s2), .val (.int s3), .val (.ref o), .val (.long J), .second, .val (.int D), .val (.long 9223372036854775807), .second, .unset, .unset] [])) _
  refine XS.iload X1.here hx rfl (hb hby at_278) rfl ?_
  show Steps p.tables e below (T1.setTop (mkF m 280 #[.val (.int v0), .val (.int v1), .val (.int v2), .val (.int v3), .val (.int t), .val (.int u1), .val (.int u2), .val (.int k), .val (.int g), .val (.int s1), .val (.int s2), .val (.int s3), .val (.ref o), .val (.long J), .second, .val (.int D), .val (.long 9223372036854775807), .second, .unset, .unset] [(.int u2)])) _
  refine XT.bipushV X1.here hx rfl 7 (hb hby at_280) (by decide) ?_
  show Steps p.tables e below (T1.setTop (mkF m 282 #[.val (.int v0), .val (.int v1), .val (.int v2), .val (.int v3), .val (.int t), .val (.int u1), .val (.int u2), .val (.int k), .val (.int g), .val (.int s1), .val (.int s2), .val (.int s3), .val (.ref o), .val (.long J), .second, .val (.int D), .val (.long 9223372036854775807), .second, .unset, .unset] [(.int 7), (.int u2)])) _
  refine XS.icmpNo X1.here hx rfl (hb hby at_282) rfl (XT.ii_ne_f h7) ?_
  show Steps p.tables e below (T1.setTop (mkF m 285 #[.val (.int v0), .val (.int v1), .val (.int v2), .val (.int v3), .val (.int t), .val (.int u1), .val (.int u2), .val (.int k), .val (.int g), .val (.int s1), .val (.int s2), .val (.int s3), .val (.ref o), .val (.long J), .second, .val (.int D), .val (.long 9223372036854775807), .second, .unset, .unset] [])) _
  refine X1.ldc2Long hx hown (mvT hZ (hw _ (List.mem_of_getElem? (i := 90) rfl))) (g := (mkF m 285 #[.val (.int v0), .val (.int v1), .val (.int v2), .val (.int v3), .val (.int t), .val (.int u1), .val (.int u2), .val (.int k), .val (.int g), .val (.int s1), .val (.int s2), .val (.int s3), .val (.ref o), .val (.long J), .second, .val (.int D), .val (.long 9223372036854775807), .second, .unset, .unset] [])) rfl (hb hby at_285) _ ?_
  show Steps p.tables e below (T1.setTop (mkF m 288 #[.val (.int v0), .val (.int v1), .val (.int v2), .val (.int v3), .val (.int t), .val (.int u1), .val (.int u2), .val (.int k), .val (.int g), .val (.int s1), .val (.int s2), .val (.int s3), .val (.ref o), .val (.long J), .second, .val (.int D), .val (.long 9223372036854775807), .second, .unset, .unset] [(.long 9223372036854775807)])) _
  refine XT.lstore X1.here hx rfl (hb hby at_288) rfl rfl ?_
  show Steps p.tables e below (T1.setTop (mkF m 290 #[.val (.int v0), .val (.int v1), .val (.int v2), .val (.int v3), .val (.int t), .val (.int u1), .val (.int u2), .val (.int k), .val (.int g), .val (.int s1), .val (.int s2), .val (.int s3), .val (.ref o), .val (.long J), .second, .val (.int D), .val (.long 9223372036854775807), .second, .val (.long 9223372036854775807), .second] [])) _
  refine XS.goto X1.here hx rfl rfl (hb hby at_290) (show (0 : Int) ≤ ((290 : Nat) : Int) + (18) by decide) (show (((290 : Nat) : Int) + (18)).toNat = 308 by decide) ?_
  show Steps p.tables e below (T1.setTop (mkF m 308 #[.val (.int v0), .val (.int v1), .val (.int v2), .val (.int v3), .val (.int t), .val (.int u1), .val (.int u2), .val (.int k), .val (.int g), .val (.int s1), .val (.int s2), .val (.int s3), .val (.ref o), .val (.long J), .second, .val (.int D), .val (.long 9223372036854775807), .second, .val (.long 9223372036854775807), .second] [])) _
  refine XT.lload X1.here hx rfl (hb hby at_308) rfl ?_
  show Steps p.tables e below (T1.setTop (mkF m 310 #[.val (.int v0), .val (.int v1), .val (.int v2), .val (.int v3), .val (.int t), .val (.int u1), .val (.int u2), .val (.int k), .val (.int g), .val (.int s1), .val (.int s2), .val (.int s3), .val (.ref o), .val (.long J), .second, .val (.int D), .val (.long 9223372036854775807), .second, .val (.long 9223372036854775807), .second] [(.long 9223372036854775807)])) _
  refine XT.lload X1.here hx rfl (hb hby at_310) rfl ?_
  show Steps p.tables e below (T1.setTop (mkF m 312 #[.val (.int v0), .val (.int v1), .val (.int v2), .val (.int v3), .val (.int t), .val (.int u1), .val (.int u2), .val (.int k), .val (.int g), .val (.int s1), .val (.int s2), .val (.int s3), .val (.ref o), .val (.long J), .second, .val (.int D), .val (.long 9223372036854775807), .second, .val (.long 9223372036854775807), .second] [(.long 9223372036854775807), (.long 9223372036854775807)])) _
  refine XT.lcmp X1.here hx rfl (hb hby at_312) rfl ?_
  show Steps p.tables e below (T1.setTop (mkF m 313 #[.val (.int v0), .val (.int v1), .val (.int v2), .val (.int v3), .val (.int t), .val (.int u1), .val (.int u2), .val (.int k), .val (.int g), .val (.int s1), .val (.int s2), .val (.int s3), .val (.ref o), .val (.long J), .second, .val (.int D), .val (.long 9223372036854775807), .second, .val (.long 9223372036854775807), .second] [(.int (XT.cmpL 9223372036854775807 9223372036854775807))])) _
  refine XS.ifNo X1.here hx rfl (hb hby at_313) rfl (XT.ll_ne_f rfl) ?_
  show Steps p.tables e below (T1.setTop (mkF m 316 #[.val (.int v0), .val (.int v1), .val (.int v2), .val (.int v3), .val (.int t), .val (.int u1), .val (.int u2), .val (.int k), .val (.int g), .val (.int s1), .val (.int s2), .val (.int s3), .val (.ref o), .val (.long J), .second, .val (.int D), .val (.long 9223372036854775807), .second, .val (.long 9223372036854775807), .second] [])) _
  refine XT.iconstV X1.here hx rfl 1 (hb hby at_316) rfl ?_
  show Steps p.tables e below (T1.setTop (mkF m 317 #[.val (.int v0), .val (.int v1), .val (.int v2), .val (.int v3), .val (.int t), .val (.int u1), .val (.int u2), .val (.int k), .val (.int g), .val (.int s1), .val (.int s2), .val (.int s3), .val (.ref o), .val (.long J), .second, .val (.int D), .val (.long 9223372036854775807), .second, .val (.long 9223372036854775807), .second] [(.int 1)])) _
  refine XS.goto X1.here hx rfl rfl (hb hby at_317) (show (0 : Int) ≤ ((317 : Nat) : Int) + (4) by decide) (show (((317 : Nat) : Int) + (4)).toNat = 321 by decide) ?_
  show Steps p.tables e below (T1.setTop (mkF m 321 #[.val (.int v0), .val (.int v1), .val (.int v2), .val (.int v3), .val (.int t), .val (.int u1), .val (.int u2), .val (.int k), .val (.int g), .val (.int s1), .val (.int s2), .val (.int s3), .val (.ref o), .val (.long J), .second, .val (.int D), .val (.long 9223372036854775807), .second, .val (.long 9223372036854775807), .second] [(.int 1)])) _
  exact k'
set_option maxRecDepth 65536 in
set_option maxHeartbeats 40000000 in
theorem own_s6u (X : Stand p l e room_1 s m args below meth c T locs 1 4) (hx : p.tables.exec = Jvm.exec) (hZ : Z.Warmed39 s.vm) (hw : ∀ d ∈ tables_1, d.before a0 Z = true) (hby : c.code = code) (hml : c.maxLocals = 20) (hown : s.vm.findClass "com/example/herring/herring/sim/FlowCapacitySetCarsPerSecondPinLaw" = some m.cls) (eT : T.heap = h) (N0 : Fr n0 locs) (Z0 : n0 ≤ h.size) (O : Old Z n0 h) (S0 : Sta Z Z.heap "java/lang/StrictMath" "$assertionsDisabled" "Z" (.int 1)) {v0 v1 v2 v3 t u1 u2 k g s1 s2 s3 : Int32}{o : Addr} {J : Int64} {D z1 z2 : Int32} (go : n0 ≤ o) {c1 c2 c3 c4 q : UInt64} {n : Nat} (F : own_FC Z h o c1 c2 c3 c4) (hn38 : n + 1 < 2 ^ 37 + 2 ^ 20) (hn126 : n % 128 ≤ 126) (hc1 : cmpValue (FP.dcmp c1 0) .l = 1) (hq : FP.ddiv c3 c1 = q) (hqn : NoNaN64 q) (hr' : FP.dadd c2 q = own_enc n) (h7 : ¬ u2 = 7) (heq : (Int32.ofNat (n / 128)).toInt64 = (J + (D.toInt64 <<< ((6 - u2).toInt64 &&& 63))) >>> ((6 : Int32).toInt64 &&& 63)) :
    ∃ T' h' L', Stand p l e room_1 s m args below meth c T' L' 1 4 ∧ T'.heap = h' ∧ Fr n0 L' ∧ n0 ≤ h'.size ∧ Old Z n0 h' ∧ ∀ target, Steps p.tables e below (T'.setTop (mkF m 321 #[.val (.int v0), .val (.int v1), .val (.int v2), .val (.int v3), .val (.int t), .val (.int u1), .val (.int u2), .val (.int k), .val (.int g), .val (.int s1), .val (.int s2), .val (.int s3), .val (.ref o), .val (.long J), .second, .val (.int D), .val (.long ((Int32.ofNat (n / 128)).toInt64)), .second, .val (.long ((J + (D.toInt64 <<< ((6 - u2).toInt64 &&& 63))) >>> ((6 : Int32).toInt64 &&& 63))), .second] [(.int 1)])) target → Steps p.tables e below (T.setTop (mkF m 271 #[.val (.int v0), .val (.int v1), .val (.int v2), .val (.int v3), .val (.int t), .val (.int u1), .val (.int u2), .val (.int k), .val (.int g), .val (.int s1), .val (.int s2), .val (.int s3), .val (.ref o), .val (.long J), .second, .val (.int D), .unset, .unset, .unset, .unset] [])) target := by
  obtain ⟨cq1, kq1, q1a, q1b, q1c⟩ := isOf hZ eT F.1
  obtain ⟨_, _, ⟨T1, L1, k1, n1⟩, -, X1, ⟨Lc1, hQ1, l1, y1, z1⟩, st1⟩ := X.virtualBack hx (y := (⟨"com/example/herring/herring/sim/FlowCapacity", "nextSecond", "()J"⟩ : MethodName)) (z := (⟨"com/example/herring/herring/sim/FlowCapacity", "nextSecond", "()J"⟩ : MethodName)) hown (mvT hZ (hw _ (List.mem_of_getElem? (i := 78) rfl))) (mvT hZ (hw _ (List.mem_of_getElem? (i := 32) rfl))) (notFace_of_selects (args := #[]) (mvT hZ (hw _ (List.mem_of_getElem? (i := 34) rfl)))) (mvT hZ (hw _ (List.mem_of_getElem? (i := 34) rfl))) (mvT hZ (hw _ (List.mem_of_getElem? (i := 33) rfl))) (by decide) (backOf (W := 0) (own_next l Z a0 hw [] o c1 c2 c3 c4 q n hn38 hn126 hc1 hq hqn hr' h n0 Z0 F (S0.ext O.2)) hZ (hw _ (List.mem_of_getElem? (i := 35) rfl)) (hw _ (List.mem_of_getElem? (i := 3) rfl)) (by decide) (by decide)) q1a q1c (g := (mkF m 273 #[.val (.int v0), .val (.int v1), .val (.int v2), .val (.int v3), .val (.int t), .val (.int u1), .val (.int u2), .val (.int k), .val (.int g), .val (.int s1), .val (.int s2), .val (.int s3), .val (.ref o), .val (.long J), .second, .val (.int D), .unset, .unset, .unset, .unset] [(.ref o)])) rfl (by rw [hml]; rfl) (Steps.refl _) (argsL := []) (rest := []) (lenOf own_lpd4 rfl) rfl (by show 2 * 0 + _ ≤ _; exact Nat.le_of_eq rfl) (hb hby at_273) (fun _ _ => ⟨rfl, eT, (by decide : 1 + 0 ≤ _), (by decide : 4 + 0 ≤ _)⟩)
  dsimp only [Pt.U, Pt.locs, Pt.cells, Pt.slots] at X1 l1 y1 z1 st1 hQ1
  subst l1 y1 z1
  obtain ⟨rfl, N1, e1⟩ := hQ1
  have N1 := Fr.app N0 N1
  obtain ⟨_, _, ⟨T2, L2, k2, n2⟩, -, X2, ⟨Lc2, hQ2, l2, y2, z2⟩, st2⟩ := Jvm.LawKit.callS X1 hx (y := (⟨"com/example/herring/herring/sim/FlowCapacitySetCarsPerSecondPinLaw", "piece", "(II)J"⟩ : MethodName)) hown (mvT hZ (hw _ (List.mem_of_getElem? (i := 86) rfl))) (mvT hZ (hw _ (List.mem_of_getElem? (i := 87) rfl))) (mvT hZ (hw _ (List.mem_of_getElem? (i := 12) rfl))) (mvT hZ (hw _ (List.mem_of_getElem? (i := 88) rfl))) (by decide) (backOf (W := 2) (own_piece l Z a0 hw [] D u2 h n0 Z0) hZ (hw _ (List.mem_of_getElem? (i := 88) rfl)) (hw _ (List.mem_of_getElem? (i := 12) rfl)) (by decide) (by decide)) (g := (mkF m 299 #[.val (.int v0), .val (.int v1), .val (.int v2), .val (.int v3), .val (.int t), .val (.int u1), .val (.int u2), .val (.int k), .val (.int g), .val (.int s1), .val (.int s2), .val (.int s3), .val (.ref o), .val (.long J), .second, .val (.int D), .val (.long ((Int32.ofNat (n / 128)).toInt64)), .second, .unset, .unset] [(.int u2), (.int D), (.long J)])) rfl (by rw [hml]; rfl) (argsL := [(.int D), (.int u2)]) (rest := [(.long J)]) (lenOf own_lpd5 rfl) rfl (by show 2 * 0 + _ ≤ _; exact Nat.le_of_eq rfl) (hb hby at_299) (fun _ _ => ⟨rfl, e1, (by decide : 1 + 0 + 0 ≤ _), (by decide : 4 + 0 + 0 ≤ _)⟩)
  dsimp only [Pt.U, Pt.locs, Pt.cells, Pt.slots] at X2 l2 y2 z2 st2 hQ2
  subst l2 y2 z2
  obtain ⟨rfl, N2, e2⟩ := hQ2
  have N2 := Fr.app N1 N2
  refine ⟨T2, h, _, X2, e2, N2, Z0, O, fun target k' => ?_⟩
  show Steps p.tables e below (T.setTop (mkF m 271 #[.val (.int v0), .val (.int v1), .val (.int v2), .val (.int v3), .val (.int t), .val (.int u1), .val (.int u2), .val (.int k), .val (.int g), .val (.int s1), .val (.int s2), .val (.int s3), .val (.ref o), .val (.long J), .second, .val (.int D), .unset, .unset, .unset, .unset] [])) _
  refine XS.aload X.here hx rfl (hb hby at_271) rfl rfl ?_
  show Steps p.tables e below (T.setTop (mkF m 273 #[.val (.int v0), .val (.int v1), .val (.int v2), .val (.int v3), .val (.int t), .val (.int u1), .val (.int u2), .val (.int k), .val (.int g), .val (.int s1), .val (.int s2), .val (.int s3), .val (.ref o), .val (.long J), .second, .val (.int D), .unset, .unset, .unset, .unset] [(.ref o)])) _
  refine st1.trans ?_
  show Steps p.tables e below (T1.setTop (mkF m 276 #[.val (.int v0), .val (.int v1), .val (.int v2), .val (.int v3), .val (.int t), .val (.int u1), .val (.int u2), .val (.int k), .val (.int g), .val (.int s1), .val (.int s2), .val (.int s3), .val (.ref o), .val (.long J), .second, .val (.int D), .unset, .unset, .unset, .unset] [(.long ((Int32.ofNat (n / 128)).toInt64))])) _
  refine XT.lstore X1.here hx rfl (hb hby at_276) rfl rfl ?_
  show Steps p.tables e below (T1.setTop (mkF m 278 #[.val (.int v0), .val (.int v1), .val (.int v2), .val (.int v3), .val (.int t), .val (.int u1), .val (.int u2), .val (.int k), .val (.int g), .val (.int s1), .val (.int s2), .val (.int s3), .val (.ref o), .val (.long J), .second, .val (.int D), .val (.long ((Int32.ofNat (n / 128)).toInt64)), .second, .unset, .unset] [])) _
  refine XS.iload X1.here hx rfl (hb hby at_278) rfl ?_
  show Steps p.tables e below (T1.setTop (mkF m 280 #[.val (.int v0), .val (.int v1), .val (.int v2), .val (.int v3), .val (.int t), .val (.int u1), .val (.int u2), .val (.int k), .val (.int g), .val (.int s1), .val (.int s2), .val (.int s3), .val (.ref o), .val (.long J), .second, .val (.int D), .val (.long ((Int32.ofNat (n / 128)).toInt64)), .second, .unset, .unset] [(.int u2)])) _
  refine XT.bipushV X1.here hx rfl 7 (hb hby at_280) (by decide) ?_
  show Steps p.tables e below (T1.setTop (mkF m 282 #[.val (.int v0), .val (.int v1), .val (.int v2), .val (.int v3), .val (.int t), .val (.int u1), .val (.int u2), .val (.int k), .val (.int g), .val (.int s1), .val (.int s2), .val (.int s3), .val (.ref o), .val (.long J), .second, .val (.int D), .val (.long ((Int32.ofNat (n / 128)).toInt64)), .second, .unset, .unset] [(.int 7), (.int u2)])) _
  refine XS.icmpYes X1.here hx rfl rfl (hb hby at_282) rfl (XT.ii_ne_t h7) (show (0 : Int) ≤ ((282 : Nat) : Int) + (11) by decide) (show (((282 : Nat) : Int) + (11)).toNat = 293 by decide) ?_
  show Steps p.tables e below (T1.setTop (mkF m 293 #[.val (.int v0), .val (.int v1), .val (.int v2), .val (.int v3), .val (.int t), .val (.int u1), .val (.int u2), .val (.int k), .val (.int g), .val (.int s1), .val (.int s2), .val (.int s3), .val (.ref o), .val (.long J), .second, .val (.int D), .val (.long ((Int32.ofNat (n / 128)).toInt64)), .second, .unset, .unset] [])) _
  refine XT.lload X1.here hx rfl (hb hby at_293) rfl ?_
  show Steps p.tables e below (T1.setTop (mkF m 295 #[.val (.int v0), .val (.int v1), .val (.int v2), .val (.int v3), .val (.int t), .val (.int u1), .val (.int u2), .val (.int k), .val (.int g), .val (.int s1), .val (.int s2), .val (.int s3), .val (.ref o), .val (.long J), .second, .val (.int D), .val (.long ((Int32.ofNat (n / 128)).toInt64)), .second, .unset, .unset] [(.long J)])) _
  refine XS.iload X1.here hx rfl (hb hby at_295) rfl ?_
  show Steps p.tables e below (T1.setTop (mkF m 297 #[.val (.int v0), .val (.int v1), .val (.int v2), .val (.int v3), .val (.int t), .val (.int u1), .val (.int u2), .val (.int k), .val (.int g), .val (.int s1), .val (.int s2), .val (.int s3), .val (.ref o), .val (.long J), .second, .val (.int D), .val (.long ((Int32.ofNat (n / 128)).toInt64)), .second, .unset, .unset] [(.int D), (.long J)])) _
  refine XS.iload X1.here hx rfl (hb hby at_297) rfl ?_
  show Steps p.tables e below (T1.setTop (mkF m 299 #[.val (.int v0), .val (.int v1), .val (.int v2), .val (.int v3), .val (.int t), .val (.int u1), .val (.int u2), .val (.int k), .val (.int g), .val (.int s1), .val (.int s2), .val (.int s3), .val (.ref o), .val (.long J), .second, .val (.int D), .val (.long ((Int32.ofNat (n / 128)).toInt64)), .second, .unset, .unset] [(.int u2), (.int D), (.long J)])) _
  refine st2 _ ?_
  show Steps p.tables e below (T2.setTop (mkF m 302 #[.val (.int v0), .val (.int v1), .val (.int v2), .val (.int v3), .val (.int t), .val (.int u1), .val (.int u2), .val (.int k), .val (.int g), .val (.int s1), .val (.int s2), .val (.int s3), .val (.ref o), .val (.long J), .second, .val (.int D), .val (.long ((Int32.ofNat (n / 128)).toInt64)), .second, .unset, .unset] [(.long (D.toInt64 <<< ((6 - u2).toInt64 &&& 63))), (.long J)])) _
  refine XT.ladd X2.here hx rfl (hb hby at_302) rfl ?_
  show Steps p.tables e below (T2.setTop (mkF m 303 #[.val (.int v0), .val (.int v1), .val (.int v2), .val (.int v3), .val (.int t), .val (.int u1), .val (.int u2), .val (.int k), .val (.int g), .val (.int s1), .val (.int s2), .val (.int s3), .val (.ref o), .val (.long J), .second, .val (.int D), .val (.long ((Int32.ofNat (n / 128)).toInt64)), .second, .unset, .unset] [(.long (J + (D.toInt64 <<< ((6 - u2).toInt64 &&& 63))))])) _
  refine XT.bipushV X2.here hx rfl 6 (hb hby at_303) (by decide) ?_
  show Steps p.tables e below (T2.setTop (mkF m 305 #[.val (.int v0), .val (.int v1), .val (.int v2), .val (.int v3), .val (.int t), .val (.int u1), .val (.int u2), .val (.int k), .val (.int g), .val (.int s1), .val (.int s2), .val (.int s3), .val (.ref o), .val (.long J), .second, .val (.int D), .val (.long ((Int32.ofNat (n / 128)).toInt64)), .second, .unset, .unset] [(.int 6), (.long (J + (D.toInt64 <<< ((6 - u2).toInt64 &&& 63))))])) _
  refine XT.lshr X2.here hx rfl (hb hby at_305) rfl ?_
  show Steps p.tables e below (T2.setTop (mkF m 306 #[.val (.int v0), .val (.int v1), .val (.int v2), .val (.int v3), .val (.int t), .val (.int u1), .val (.int u2), .val (.int k), .val (.int g), .val (.int s1), .val (.int s2), .val (.int s3), .val (.ref o), .val (.long J), .second, .val (.int D), .val (.long ((Int32.ofNat (n / 128)).toInt64)), .second, .unset, .unset] [(.long ((J + (D.toInt64 <<< ((6 - u2).toInt64 &&& 63))) >>> ((6 : Int32).toInt64 &&& 63)))])) _
  refine XT.lstore X2.here hx rfl (hb hby at_306) rfl rfl ?_
  show Steps p.tables e below (T2.setTop (mkF m 308 #[.val (.int v0), .val (.int v1), .val (.int v2), .val (.int v3), .val (.int t), .val (.int u1), .val (.int u2), .val (.int k), .val (.int g), .val (.int s1), .val (.int s2), .val (.int s3), .val (.ref o), .val (.long J), .second, .val (.int D), .val (.long ((Int32.ofNat (n / 128)).toInt64)), .second, .val (.long ((J + (D.toInt64 <<< ((6 - u2).toInt64 &&& 63))) >>> ((6 : Int32).toInt64 &&& 63))), .second] [])) _
  refine XT.lload X2.here hx rfl (hb hby at_308) rfl ?_
  show Steps p.tables e below (T2.setTop (mkF m 310 #[.val (.int v0), .val (.int v1), .val (.int v2), .val (.int v3), .val (.int t), .val (.int u1), .val (.int u2), .val (.int k), .val (.int g), .val (.int s1), .val (.int s2), .val (.int s3), .val (.ref o), .val (.long J), .second, .val (.int D), .val (.long ((Int32.ofNat (n / 128)).toInt64)), .second, .val (.long ((J + (D.toInt64 <<< ((6 - u2).toInt64 &&& 63))) >>> ((6 : Int32).toInt64 &&& 63))), .second] [(.long ((Int32.ofNat (n / 128)).toInt64))])) _
  refine XT.lload X2.here hx rfl (hb hby at_310) rfl ?_
  show Steps p.tables e below (T2.setTop (mkF m 312 #[.val (.int v0), .val (.int v1), .val (.int v2), .val (.int v3), .val (.int t), .val (.int u1), .val (.int u2), .val (.int k), .val (.int g), .val (.int s1), .val (.int s2), .val (.int s3), .val (.ref o), .val (.long J), .second, .val (.int D), .val (.long ((Int32.ofNat (n / 128)).toInt64)), .second, .val (.long ((J + (D.toInt64 <<< ((6 - u2).toInt64 &&& 63))) >>> ((6 : Int32).toInt64 &&& 63))), .second] [(.long ((J + (D.toInt64 <<< ((6 - u2).toInt64 &&& 63))) >>> ((6 : Int32).toInt64 &&& 63))), (.long ((Int32.ofNat (n / 128)).toInt64))])) _
  refine XT.lcmp X2.here hx rfl (hb hby at_312) rfl ?_
  show Steps p.tables e below (T2.setTop (mkF m 313 #[.val (.int v0), .val (.int v1), .val (.int v2), .val (.int v3), .val (.int t), .val (.int u1), .val (.int u2), .val (.int k), .val (.int g), .val (.int s1), .val (.int s2), .val (.int s3), .val (.ref o), .val (.long J), .second, .val (.int D), .val (.long ((Int32.ofNat (n / 128)).toInt64)), .second, .val (.long ((J + (D.toInt64 <<< ((6 - u2).toInt64 &&& 63))) >>> ((6 : Int32).toInt64 &&& 63))), .second] [(.int (XT.cmpL ((Int32.ofNat (n / 128)).toInt64) ((J + (D.toInt64 <<< ((6 - u2).toInt64 &&& 63))) >>> ((6 : Int32).toInt64 &&& 63))))])) _
  refine XS.ifNo X2.here hx rfl (hb hby at_313) rfl (XT.ll_ne_f heq) ?_
  show Steps p.tables e below (T2.setTop (mkF m 316 #[.val (.int v0), .val (.int v1), .val (.int v2), .val (.int v3), .val (.int t), .val (.int u1), .val (.int u2), .val (.int k), .val (.int g), .val (.int s1), .val (.int s2), .val (.int s3), .val (.ref o), .val (.long J), .second, .val (.int D), .val (.long ((Int32.ofNat (n / 128)).toInt64)), .second, .val (.long ((J + (D.toInt64 <<< ((6 - u2).toInt64 &&& 63))) >>> ((6 : Int32).toInt64 &&& 63))), .second] [])) _
  refine XT.iconstV X2.here hx rfl 1 (hb hby at_316) rfl ?_
  show Steps p.tables e below (T2.setTop (mkF m 317 #[.val (.int v0), .val (.int v1), .val (.int v2), .val (.int v3), .val (.int t), .val (.int u1), .val (.int u2), .val (.int k), .val (.int g), .val (.int s1), .val (.int s2), .val (.int s3), .val (.ref o), .val (.long J), .second, .val (.int D), .val (.long ((Int32.ofNat (n / 128)).toInt64)), .second, .val (.long ((J + (D.toInt64 <<< ((6 - u2).toInt64 &&& 63))) >>> ((6 : Int32).toInt64 &&& 63))), .second] [(.int 1)])) _
  refine XS.goto X2.here hx rfl rfl (hb hby at_317) (show (0 : Int) ≤ ((317 : Nat) : Int) + (4) by decide) (show (((317 : Nat) : Int) + (4)).toNat = 321 by decide) ?_
  show Steps p.tables e below (T2.setTop (mkF m 321 #[.val (.int v0), .val (.int v1), .val (.int v2), .val (.int v3), .val (.int t), .val (.int u1), .val (.int u2), .val (.int k), .val (.int g), .val (.int s1), .val (.int s2), .val (.int s3), .val (.ref o), .val (.long J), .second, .val (.int D), .val (.long ((Int32.ofNat (n / 128)).toInt64)), .second, .val (.long ((J + (D.toInt64 <<< ((6 - u2).toInt64 &&& 63))) >>> ((6 : Int32).toInt64 &&& 63))), .second] [(.int 1)])) _
  exact k'
set_option maxRecDepth 65536 in
set_option maxHeartbeats 40000000 in
theorem own_s6i7 (X : Stand p l e room_1 s m args below meth c T locs 1 4) (hx : p.tables.exec = Jvm.exec) (hZ : Z.Warmed39 s.vm) (hw : ∀ d ∈ tables_1, d.before a0 Z = true) (hby : c.code = code) (hml : c.maxLocals = 20) (hown : s.vm.findClass "com/example/herring/herring/sim/FlowCapacitySetCarsPerSecondPinLaw" = some m.cls) (eT : T.heap = h) (N0 : Fr n0 locs) (Z0 : n0 ≤ h.size) (O : Old Z n0 h) (S0 : Sta Z Z.heap "java/lang/StrictMath" "$assertionsDisabled" "Z" (.int 1)) {v0 v1 v2 v3 t u1 u2 k g s1 s2 s3 : Int32}{o : Addr} {J : Int64} {D z1 z2 : Int32} (go : n0 ≤ o) {c1 c2 c3 c4 : UInt64} (F : own_FC Z h o c1 c2 c3 c4) (h7 : u2 = 7) (hc0 : cmpValue (FP.dcmp c1 0) .l = 0) :
    ∃ T' h' L', Stand p l e room_1 s m args below meth c T' L' 1 4 ∧ T'.heap = h' ∧ Fr n0 L' ∧ n0 ≤ h'.size ∧ Old Z n0 h' ∧ ∀ target, Steps p.tables e below (T'.setTop (mkF m 321 #[.val (.int v0), .val (.int v1), .val (.int v2), .val (.int v3), .val (.int t), .val (.int u1), .val (.int u2), .val (.int k), .val (.int g), .val (.int s1), .val (.int s2), .val (.int s3), .val (.ref o), .val (.long J), .second, .val (.int D), .val (.long 9223372036854775807), .second, .val (.long 9223372036854775807), .second] [(.int 1)])) target → Steps p.tables e below (T.setTop (mkF m 271 #[.val (.int v0), .val (.int v1), .val (.int v2), .val (.int v3), .val (.int t), .val (.int u1), .val (.int u2), .val (.int k), .val (.int g), .val (.int s1), .val (.int s2), .val (.int s3), .val (.ref o), .val (.long J), .second, .val (.int D), .val (.int z1), .val (.int z2), .unset, .unset] [])) target := by
  obtain ⟨cq1, kq1, q1a, q1b, q1c⟩ := isOf hZ eT F.1
  obtain ⟨_, _, ⟨T1, L1, k1, n1⟩, -, X1, ⟨Lc1, hQ1, l1, y1, z1⟩, st1⟩ := X.virtualBack hx (y := (⟨"com/example/herring/herring/sim/FlowCapacity", "nextSecond", "()J"⟩ : MethodName)) (z := (⟨"com/example/herring/herring/sim/FlowCapacity", "nextSecond", "()J"⟩ : MethodName)) hown (mvT hZ (hw _ (List.mem_of_getElem? (i := 78) rfl))) (mvT hZ (hw _ (List.mem_of_getElem? (i := 32) rfl))) (notFace_of_selects (args := #[]) (mvT hZ (hw _ (List.mem_of_getElem? (i := 34) rfl)))) (mvT hZ (hw _ (List.mem_of_getElem? (i := 34) rfl))) (mvT hZ (hw _ (List.mem_of_getElem? (i := 33) rfl))) (by decide) (backOf (W := 0) (own_nextZ l Z a0 hw [] o c1 c2 c3 c4 hc0 h n0 Z0 F) hZ (hw _ (List.mem_of_getElem? (i := 35) rfl)) (hw _ (List.mem_of_getElem? (i := 3) rfl)) (by decide) (by decide)) q1a q1c (g := (mkF m 273 #[.val (.int v0), .val (.int v1), .val (.int v2), .val (.int v3), .val (.int t), .val (.int u1), .val (.int u2), .val (.int k), .val (.int g), .val (.int s1), .val (.int s2), .val (.int s3), .val (.ref o), .val (.long J), .second, .val (.int D), .val (.int z1), .val (.int z2), .unset, .unset] [(.ref o)])) rfl (by rw [hml]; rfl) (Steps.refl _) (argsL := []) (rest := []) (lenOf own_lpd4 rfl) rfl (by show 2 * 0 + _ ≤ _; exact Nat.le_of_eq rfl) (hb hby at_273) (fun _ _ => ⟨rfl, eT, (by decide : 1 + 0 ≤ _), (by decide : 4 + 0 ≤ _)⟩)
  dsimp only [Pt.U, Pt.locs, Pt.cells, Pt.slots] at X1 l1 y1 z1 st1 hQ1
  subst l1 y1 z1
  obtain ⟨rfl, N1, e1⟩ := hQ1
  have N1 := Fr.app N0 N1
  refine ⟨T1, h, _, X1, e1, N1, Z0, O, fun target k' => ?_⟩
  show Steps p.tables e below (T.setTop (mkF m 271 #[.val (.int v0), .val (.int v1), .val (.int v2), .val (.int v3), .val (.int t), .val (.int u1), .val (.int u2), .val (.int k), .val (.int g), .val (.int s1), .val (.int s2), .val (.int s3), .val (.ref o), .val (.long J), .second, .val (.int D), .val (.int z1), .val (.int z2), .unset, .unset] [])) _
  refine XS.aload X.here hx rfl (hb hby at_271) rfl rfl ?_
  show Steps p.tables e below (T.setTop (mkF m 273 #[.val (.int v0), .val (.int v1), .val (.int v2), .val (.int v3), .val (.int t), .val (.int u1), .val (.int u2), .val (.int k), .val (.int g), .val (.int s1), .val (.int s2), .val (.int s3), .val (.ref o), .val (.long J), .second, .val (.int D), .val (.int z1), .val (.int z2), .unset, .unset] [(.ref o)])) _
  refine st1.trans ?_
  show Steps p.tables e below (T1.setTop (mkF m 276 #[.val (.int v0), .val (.int v1), .val (.int v2), .val (.int v3), .val (.int t), .val (.int u1), .val (.int u2), .val (.int k), .val (.int g), .val (.int s1), .val (.int s2), .val (.int s3), .val (.ref o), .val (.long J), .second, .val (.int D), .val (.int z1), .val (.int z2), .unset, .unset] [(.long 9223372036854775807)])) _
  refine XT.lstore X1.here hx rfl (hb hby at_276) rfl rfl ?_
  show Steps p.tables e below (T1.setTop (mkF m 278 #[.val (.int v0), .val (.int v1), .val (.int v2), .val (.int v3), .val (.int t), .val (.int u1), .val (.int u2), .val (.int k), .val (.int g), .val (.int s1), .val (.int s2), .val (.int s3), .val (.ref o), .val (.long J), .second, .val (.int D), .val (.long 9223372036854775807), .second, .unset, .unset] [])) _
  refine XS.iload X1.here hx rfl (hb hby at_278) rfl ?_
  show Steps p.tables e below (T1.setTop (mkF m 280 #[.val (.int v0), .val (.int v1), .val (.int v2), .val (.int v3), .val (.int t), .val (.int u1), .val (.int u2), .val (.int k), .val (.int g), .val (.int s1), .val (.int s2), .val (.int s3), .val (.ref o), .val (.long J), .second, .val (.int D), .val (.long 9223372036854775807), .second, .unset, .unset] [(.int u2)])) _
  refine XT.bipushV X1.here hx rfl 7 (hb hby at_280) (by decide) ?_
  show Steps p.tables e below (T1.setTop (mkF m 282 #[.val (.int v0), .val (.int v1), .val (.int v2), .val (.int v3), .val (.int t), .val (.int u1), .val (.int u2), .val (.int k), .val (.int g), .val (.int s1), .val (.int s2), .val (.int s3), .val (.ref o), .val (.long J), .second, .val (.int D), .val (.long 9223372036854775807), .second, .unset, .unset] [(.int 7), (.int u2)])) _
  refine XS.icmpNo X1.here hx rfl (hb hby at_282) rfl (XT.ii_ne_f h7) ?_
  show Steps p.tables e below (T1.setTop (mkF m 285 #[.val (.int v0), .val (.int v1), .val (.int v2), .val (.int v3), .val (.int t), .val (.int u1), .val (.int u2), .val (.int k), .val (.int g), .val (.int s1), .val (.int s2), .val (.int s3), .val (.ref o), .val (.long J), .second, .val (.int D), .val (.long 9223372036854775807), .second, .unset, .unset] [])) _
  refine X1.ldc2Long hx hown (mvT hZ (hw _ (List.mem_of_getElem? (i := 90) rfl))) (g := (mkF m 285 #[.val (.int v0), .val (.int v1), .val (.int v2), .val (.int v3), .val (.int t), .val (.int u1), .val (.int u2), .val (.int k), .val (.int g), .val (.int s1), .val (.int s2), .val (.int s3), .val (.ref o), .val (.long J), .second, .val (.int D), .val (.long 9223372036854775807), .second, .unset, .unset] [])) rfl (hb hby at_285) _ ?_
  show Steps p.tables e below (T1.setTop (mkF m 288 #[.val (.int v0), .val (.int v1), .val (.int v2), .val (.int v3), .val (.int t), .val (.int u1), .val (.int u2), .val (.int k), .val (.int g), .val (.int s1), .val (.int s2), .val (.int s3), .val (.ref o), .val (.long J), .second, .val (.int D), .val (.long 9223372036854775807), .second, .unset, .unset] [(.long 9223372036854775807)])) _
  refine XT.lstore X1.here hx rfl (hb hby at_288) rfl rfl ?_
  show Steps p.tables e below (T1.setTop (mkF m 290 #[.val (.int v0), .val (.int v1), .val (.int v2), .val (.int v3), .val (.int t), .val (.int u1), .val (.int u2), .val (.int k), .val (.int g), .val (.int s1), .val (.int s2), .val (.int s3), .val (.ref o), .val (.long J), .second, .val (.int D), .val (.long 9223372036854775807), .second, .val (.long 9223372036854775807), .second] [])) _
  refine XS.goto X1.here hx rfl rfl (hb hby at_290) (show (0 : Int) ≤ ((290 : Nat) : Int) + (18) by decide) (show (((290 : Nat) : Int) + (18)).toNat = 308 by decide) ?_
  show Steps p.tables e below (T1.setTop (mkF m 308 #[.val (.int v0), .val (.int v1), .val (.int v2), .val (.int v3), .val (.int t), .val (.int u1), .val (.int u2), .val (.int k), .val (.int g), .val (.int s1), .val (.int s2), .val (.int s3), .val (.ref o), .val (.long J), .second, .val (.int D), .val (.long 9223372036854775807), .second, .val (.long 9223372036854775807), .second] [])) _
  refine XT.lload X1.here hx rfl (hb hby at_308) rfl ?_
  show Steps p.tables e below (T1.setTop (mkF m 310 #[.val (.int v0), .val (.int v1), .val (.int v2), .val (.int v3), .val (.int t), .val (.int u1), .val (.int u2), .val (.int k), .val (.int g), .val (.int s1), .val (.int s2), .val (.int s3), .val (.ref o), .val (.long J), .second, .val (.int D), .val (.long 9223372036854775807), .second, .val (.long 9223372036854775807), .second] [(.long 9223372036854775807)])) _
  refine XT.lload X1.here hx rfl (hb hby at_310) rfl ?_
  show Steps p.tables e below (T1.setTop (mkF m 312 #[.val (.int v0), .val (.int v1), .val (.int v2), .val (.int v3), .val (.int t), .val (.int u1), .val (.int u2), .val (.int k), .val (.int g), .val (.int s1), .val (.int s2), .val (.int s3), .val (.ref o), .val (.long J), .second, .val (.int D), .val (.long 9223372036854775807), .second, .val (.long 9223372036854775807), .second] [(.long 9223372036854775807), (.long 9223372036854775807)])) _
  refine XT.lcmp X1.here hx rfl (hb hby at_312) rfl ?_
  show Steps p.tables e below (T1.setTop (mkF m 313 #[.val (.int v0), .val (.int v1), .val (.int v2), .val (.int v3), .val (.int t), .val (.int u1), .val (.int u2), .val (.int k), .val (.int g), .val (.int s1), .val (.int s2), .val (.int s3), .val (.ref o), .val (.long J), .second, .val (.int D), .val (.long 9223372036854775807), .second, .val (.long 9223372036854775807), .second] [(.int (XT.cmpL 9223372036854775807 9223372036854775807))])) _
  refine XS.ifNo X1.here hx rfl (hb hby at_313) rfl (XT.ll_ne_f rfl) ?_
  show Steps p.tables e below (T1.setTop (mkF m 316 #[.val (.int v0), .val (.int v1), .val (.int v2), .val (.int v3), .val (.int t), .val (.int u1), .val (.int u2), .val (.int k), .val (.int g), .val (.int s1), .val (.int s2), .val (.int s3), .val (.ref o), .val (.long J), .second, .val (.int D), .val (.long 9223372036854775807), .second, .val (.long 9223372036854775807), .second] [])) _
  refine XT.iconstV X1.here hx rfl 1 (hb hby at_316) rfl ?_
  show Steps p.tables e below (T1.setTop (mkF m 317 #[.val (.int v0), .val (.int v1), .val (.int v2), .val (.int v3), .val (.int t), .val (.int u1), .val (.int u2), .val (.int k), .val (.int g), .val (.int s1), .val (.int s2), .val (.int s3), .val (.ref o), .val (.long J), .second, .val (.int D), .val (.long 9223372036854775807), .second, .val (.long 9223372036854775807), .second] [(.int 1)])) _
  refine XS.goto X1.here hx rfl rfl (hb hby at_317) (show (0 : Int) ≤ ((317 : Nat) : Int) + (4) by decide) (show (((317 : Nat) : Int) + (4)).toNat = 321 by decide) ?_
  show Steps p.tables e below (T1.setTop (mkF m 321 #[.val (.int v0), .val (.int v1), .val (.int v2), .val (.int v3), .val (.int t), .val (.int u1), .val (.int u2), .val (.int k), .val (.int g), .val (.int s1), .val (.int s2), .val (.int s3), .val (.ref o), .val (.long J), .second, .val (.int D), .val (.long 9223372036854775807), .second, .val (.long 9223372036854775807), .second] [(.int 1)])) _
  exact k'
set_option maxRecDepth 65536 in
set_option maxHeartbeats 40000000 in
theorem own_s6i (X : Stand p l e room_1 s m args below meth c T locs 1 4) (hx : p.tables.exec = Jvm.exec) (hZ : Z.Warmed39 s.vm) (hw : ∀ d ∈ tables_1, d.before a0 Z = true) (hby : c.code = code) (hml : c.maxLocals = 20) (hown : s.vm.findClass "com/example/herring/herring/sim/FlowCapacitySetCarsPerSecondPinLaw" = some m.cls) (eT : T.heap = h) (N0 : Fr n0 locs) (Z0 : n0 ≤ h.size) (O : Old Z n0 h) (S0 : Sta Z Z.heap "java/lang/StrictMath" "$assertionsDisabled" "Z" (.int 1)) {v0 v1 v2 v3 t u1 u2 k g s1 s2 s3 : Int32}{o : Addr} {J : Int64} {D z1 z2 : Int32} (go : n0 ≤ o) {c1 c2 c3 c4 q : UInt64} {n : Nat} (F : own_FC Z h o c1 c2 c3 c4) (hn38 : n + 1 < 2 ^ 37 + 2 ^ 20) (hn126 : n % 128 ≤ 126) (hc1 : cmpValue (FP.dcmp c1 0) .l = 1) (hq : FP.ddiv c3 c1 = q) (hqn : NoNaN64 q) (hr' : FP.dadd c2 q = own_enc n) (h7 : ¬ u2 = 7) (heq : (Int32.ofNat (n / 128)).toInt64 = (J + (D.toInt64 <<< ((6 - u2).toInt64 &&& 63))) >>> ((6 : Int32).toInt64 &&& 63)) :
    ∃ T' h' L', Stand p l e room_1 s m args below meth c T' L' 1 4 ∧ T'.heap = h' ∧ Fr n0 L' ∧ n0 ≤ h'.size ∧ Old Z n0 h' ∧ ∀ target, Steps p.tables e below (T'.setTop (mkF m 321 #[.val (.int v0), .val (.int v1), .val (.int v2), .val (.int v3), .val (.int t), .val (.int u1), .val (.int u2), .val (.int k), .val (.int g), .val (.int s1), .val (.int s2), .val (.int s3), .val (.ref o), .val (.long J), .second, .val (.int D), .val (.long ((Int32.ofNat (n / 128)).toInt64)), .second, .val (.long ((J + (D.toInt64 <<< ((6 - u2).toInt64 &&& 63))) >>> ((6 : Int32).toInt64 &&& 63))), .second] [(.int 1)])) target → Steps p.tables e below (T.setTop (mkF m 271 #[.val (.int v0), .val (.int v1), .val (.int v2), .val (.int v3), .val (.int t), .val (.int u1), .val (.int u2), .val (.int k), .val (.int g), .val (.int s1), .val (.int s2), .val (.int s3), .val (.ref o), .val (.long J), .second, .val (.int D), .val (.int z1), .val (.int z2), .unset, .unset] [])) target := by
  obtain ⟨cq1, kq1, q1a, q1b, q1c⟩ := isOf hZ eT F.1
  obtain ⟨_, _, ⟨T1, L1, k1, n1⟩, -, X1, ⟨Lc1, hQ1, l1, y1, z1⟩, st1⟩ := X.virtualBack hx (y := (⟨"com/example/herring/herring/sim/FlowCapacity", "nextSecond", "()J"⟩ : MethodName)) (z := (⟨"com/example/herring/herring/sim/FlowCapacity", "nextSecond", "()J"⟩ : MethodName)) hown (mvT hZ (hw _ (List.mem_of_getElem? (i := 78) rfl))) (mvT hZ (hw _ (List.mem_of_getElem? (i := 32) rfl))) (notFace_of_selects (args := #[]) (mvT hZ (hw _ (List.mem_of_getElem? (i := 34) rfl)))) (mvT hZ (hw _ (List.mem_of_getElem? (i := 34) rfl))) (mvT hZ (hw _ (List.mem_of_getElem? (i := 33) rfl))) (by decide) (backOf (W := 0) (own_next l Z a0 hw [] o c1 c2 c3 c4 q n hn38 hn126 hc1 hq hqn hr' h n0 Z0 F (S0.ext O.2)) hZ (hw _ (List.mem_of_getElem? (i := 35) rfl)) (hw _ (List.mem_of_getElem? (i := 3) rfl)) (by decide) (by decide)) q1a q1c (g := (mkF m 273 #[.val (.int v0), .val (.int v1), .val (.int v2), .val (.int v3), .val (.int t), .val (.int u1), .val (.int u2), .val (.int k), .val (.int g), .val (.int s1), .val (.int s2), .val (.int s3), .val (.ref o), .val (.long J), .second, .val (.int D), .val (.int z1), .val (.int z2), .unset, .unset] [(.ref o)])) rfl (by rw [hml]; rfl) (Steps.refl _) (argsL := []) (rest := []) (lenOf own_lpd4 rfl) rfl (by show 2 * 0 + _ ≤ _; exact Nat.le_of_eq rfl) (hb hby at_273) (fun _ _ => ⟨rfl, eT, (by decide : 1 + 0 ≤ _), (by decide : 4 + 0 ≤ _)⟩)
  dsimp only [Pt.U, Pt.locs, Pt.cells, Pt.slots] at X1 l1 y1 z1 st1 hQ1
  subst l1 y1 z1
  obtain ⟨rfl, N1, e1⟩ := hQ1
  have N1 := Fr.app N0 N1
  obtain ⟨_, _, ⟨T2, L2, k2, n2⟩, -, X2, ⟨Lc2, hQ2, l2, y2, z2⟩, st2⟩ := Jvm.LawKit.callS X1 hx (y := (⟨"com/example/herring/herring/sim/FlowCapacitySetCarsPerSecondPinLaw", "piece", "(II)J"⟩ : MethodName)) hown (mvT hZ (hw _ (List.mem_of_getElem? (i := 86) rfl))) (mvT hZ (hw _ (List.mem_of_getElem? (i := 87) rfl))) (mvT hZ (hw _ (List.mem_of_getElem? (i := 12) rfl))) (mvT hZ (hw _ (List.mem_of_getElem? (i := 88) rfl))) (by decide) (backOf (W := 2) (own_piece l Z a0 hw [] D u2 h n0 Z0) hZ (hw _ (List.mem_of_getElem? (i := 88) rfl)) (hw _ (List.mem_of_getElem? (i := 12) rfl)) (by decide) (by decide)) (g := (mkF m 299 #[.val (.int v0), .val (.int v1), .val (.int v2), .val (.int v3), .val (.int t), .val (.int u1), .val (.int u2), .val (.int k), .val (.int g), .val (.int s1), .val (.int s2), .val (.int s3), .val (.ref o), .val (.long J), .second, .val (.int D), .val (.long ((Int32.ofNat (n / 128)).toInt64)), .second, .unset, .unset] [(.int u2), (.int D), (.long J)])) rfl (by rw [hml]; rfl) (argsL := [(.int D), (.int u2)]) (rest := [(.long J)]) (lenOf own_lpd5 rfl) rfl (by show 2 * 0 + _ ≤ _; exact Nat.le_of_eq rfl) (hb hby at_299) (fun _ _ => ⟨rfl, e1, (by decide : 1 + 0 + 0 ≤ _), (by decide : 4 + 0 + 0 ≤ _)⟩)
  dsimp only [Pt.U, Pt.locs, Pt.cells, Pt.slots] at X2 l2 y2 z2 st2 hQ2
  subst l2 y2 z2
  obtain ⟨rfl, N2, e2⟩ := hQ2
  have N2 := Fr.app N1 N2
  refine ⟨T2, h, _, X2, e2, N2, Z0, O, fun target k' => ?_⟩
  show Steps p.tables e below (T.setTop (mkF m 271 #[.val (.int v0), .val (.int v1), .val (.int v2), .val (.int v3), .val (.int t), .val (.int u1), .val (.int u2), .val (.int k), .val (.int g), .val (.int s1), .val (.int s2), .val (.int s3), .val (.ref o), .val (.long J), .second, .val (.int D), .val (.int z1), .val (.int z2), .unset, .unset] [])) _
  refine XS.aload X.here hx rfl (hb hby at_271) rfl rfl ?_
  show Steps p.tables e below (T.setTop (mkF m 273 #[.val (.int v0), .val (.int v1), .val (.int v2), .val (.int v3), .val (.int t), .val (.int u1), .val (.int u2), .val (.int k), .val (.int g), .val (.int s1), .val (.int s2), .val (.int s3), .val (.ref o), .val (.long J), .second, .val (.int D), .val (.int z1), .val (.int z2), .unset, .unset] [(.ref o)])) _
  refine st1.trans ?_
  show Steps p.tables e below (T1.setTop (mkF m 276 #[.val (.int v0), .val (.int v1), .val (.int v2), .val (.int v3), .val (.int t), .val (.int u1), .val (.int u2), .val (.int k), .val (.int g), .val (.int s1), .val (.int s2), .val (.int s3), .val (.ref o), .val (.long J), .second, .val (.int D), .val (.int z1), .val (.int z2), .unset, .unset] [(.long ((Int32.ofNat (n / 128)).toInt64))])) _
  refine XT.lstore X1.here hx rfl (hb hby at_276) rfl rfl ?_
  show Steps p.tables e below (T1.setTop (mkF m 278 #[.val (.int v0), .val (.int v1), .val (.int v2), .val (.int v3), .val (.int t), .val (.int u1), .val (.int u2), .val (.int k), .val (.int g), .val (.int s1), .val (.int s2), .val (.int s3), .val (.ref o), .val (.long J), .second, .val (.int D), .val (.long ((Int32.ofNat (n / 128)).toInt64)), .second, .unset, .unset] [])) _
  refine XS.iload X1.here hx rfl (hb hby at_278) rfl ?_
  show Steps p.tables e below (T1.setTop (mkF m 280 #[.val (.int v0), .val (.int v1), .val (.int v2), .val (.int v3), .val (.int t), .val (.int u1), .val (.int u2), .val (.int k), .val (.int g), .val (.int s1), .val (.int s2), .val (.int s3), .val (.ref o), .val (.long J), .second, .val (.int D), .val (.long ((Int32.ofNat (n / 128)).toInt64)), .second, .unset, .unset] [(.int u2)])) _
  refine XT.bipushV X1.here hx rfl 7 (hb hby at_280) (by decide) ?_
  show Steps p.tables e below (T1.setTop (mkF m 282 #[.val (.int v0), .val (.int v1), .val (.int v2), .val (.int v3), .val (.int t), .val (.int u1), .val (.int u2), .val (.int k), .val (.int g), .val (.int s1), .val (.int s2), .val (.int s3), .val (.ref o), .val (.long J), .second, .val (.int D), .val (.long ((Int32.ofNat (n / 128)).toInt64)), .second, .unset, .unset] [(.int 7), (.int u2)])) _
  refine XS.icmpYes X1.here hx rfl rfl (hb hby at_282) rfl (XT.ii_ne_t h7) (show (0 : Int) ≤ ((282 : Nat) : Int) + (11) by decide) (show (((282 : Nat) : Int) + (11)).toNat = 293 by decide) ?_
  show Steps p.tables e below (T1.setTop (mkF m 293 #[.val (.int v0), .val (.int v1), .val (.int v2), .val (.int v3), .val (.int t), .val (.int u1), .val (.int u2), .val (.int k), .val (.int g), .val (.int s1), .val (.int s2), .val (.int s3), .val (.ref o), .val (.long J), .second, .val (.int D), .val (.long ((Int32.ofNat (n / 128)).toInt64)), .second, .unset, .unset] [])) _
  refine XT.lload X1.here hx rfl (hb hby at_293) rfl ?_
  show Steps p.tables e below (T1.setTop (mkF m 295 #[.val (.int v0), .val (.int v1), .val (.int v2), .val (.int v3), .val (.int t), .val (.int u1), .val (.int u2), .val (.int k), .val (.int g), .val (.int s1), .val (.int s2), .val (.int s3), .val (.ref o), .val (.long J), .second, .val (.int D), .val (.long ((Int32.ofNat (n / 128)).toInt64)), .second, .unset, .unset] [(.long J)])) _
  refine XS.iload X1.here hx rfl (hb hby at_295) rfl ?_
  show Steps p.tables e below (T1.setTop (mkF m 297 #[.val (.int v0), .val (.int v1), .val (.int v2), .val (.int v3), .val (.int t), .val (.int u1), .val (.int u2), .val (.int k), .val (.int g), .val (.int s1), .val (.int s2), .val (.int s3), .val (.ref o), .val (.long J), .second, .val (.int D), .val (.long ((Int32.ofNat (n / 128)).toInt64)), .second, .unset, .unset] [(.int D), (.long J)])) _
  refine XS.iload X1.here hx rfl (hb hby at_297) rfl ?_
  show Steps p.tables e below (T1.setTop (mkF m 299 #[.val (.int v0), .val (.int v1), .val (.int v2), .val (.int v3), .val (.int t), .val (.int u1), .val (.int u2), .val (.int k), .val (.int g), .val (.int s1), .val (.int s2), .val (.int s3), .val (.ref o), .val (.long J), .second, .val (.int D), .val (.long ((Int32.ofNat (n / 128)).toInt64)), .second, .unset, .unset] [(.int u2), (.int D), (.long J)])) _
  refine st2 _ ?_
  show Steps p.tables e below (T2.setTop (mkF m 302 #[.val (.int v0), .val (.int v1), .val (.int v2), .val (.int v3), .val (.int t), .val (.int u1), .val (.int u2), .val (.int k), .val (.int g), .val (.int s1), .val (.int s2), .val (.int s3), .val (.ref o), .val (.long J), .second, .val (.int D), .val (.long ((Int32.ofNat (n / 128)).toInt64)), .second, .unset, .unset] [(.long (D.toInt64 <<< ((6 - u2).toInt64 &&& 63))), (.long J)])) _
  refine XT.ladd X2.here hx rfl (hb hby at_302) rfl ?_
  show Steps p.tables e below (T2.setTop (mkF m 303 #[.val (.int v0), .val (.int v1), .val (.int v2), .val (.int v3), .val (.int t), .val (.int u1), .val (.int u2), .val (.int k), .val (.int g), .val (.int s1), .val (.int s2), .val (.int s3), .val (.ref o), .val (.long J), .second, .val (.int D), .val (.long ((Int32.ofNat (n / 128)).toInt64)), .second, .unset, .unset] [(.long (J + (D.toInt64 <<< ((6 - u2).toInt64 &&& 63))))])) _
  refine XT.bipushV X2.here hx rfl 6 (hb hby at_303) (by decide) ?_
  show Steps p.tables e below (T2.setTop (mkF m 305 #[.val (.int v0), .val (.int v1), .val (.int v2), .val (.int v3), .val (.int t), .val (.int u1), .val (.int u2), .val (.int k), .val (.int g), .val (.int s1), .val (.int s2), .val (.int s3), .val (.ref o), .val (.long J), .second, .val (.int D), .val (.long ((Int32.ofNat (n / 128)).toInt64)), .second, .unset, .unset] [(.int 6), (.long (J + (D.toInt64 <<< ((6 - u2).toInt64 &&& 63))))])) _
  refine XT.lshr X2.here hx rfl (hb hby at_305) rfl ?_
  show Steps p.tables e below (T2.setTop (mkF m 306 #[.val (.int v0), .val (.int v1), .val (.int v2), .val (.int v3), .val (.int t), .val (.int u1), .val (.int u2), .val (.int k), .val (.int g), .val (.int s1), .val (.int s2), .val (.int s3), .val (.ref o), .val (.long J), .second, .val (.int D), .val (.long ((Int32.ofNat (n / 128)).toInt64)), .second, .unset, .unset] [(.long ((J + (D.toInt64 <<< ((6 - u2).toInt64 &&& 63))) >>> ((6 : Int32).toInt64 &&& 63)))])) _
  refine XT.lstore X2.here hx rfl (hb hby at_306) rfl rfl ?_
  show Steps p.tables e below (T2.setTop (mkF m 308 #[.val (.int v0), .val (.int v1), .val (.int v2), .val (.int v3), .val (.int t), .val (.int u1), .val (.int u2), .val (.int k), .val (.int g), .val (.int s1), .val (.int s2), .val (.int s3), .val (.ref o), .val (.long J), .second, .val (.int D), .val (.long ((Int32.ofNat (n / 128)).toInt64)), .second, .val (.long ((J + (D.toInt64 <<< ((6 - u2).toInt64 &&& 63))) >>> ((6 : Int32).toInt64 &&& 63))), .second] [])) _
  refine XT.lload X2.here hx rfl (hb hby at_308) rfl ?_
  show Steps p.tables e below (T2.setTop (mkF m 310 #[.val (.int v0), .val (.int v1), .val (.int v2), .val (.int v3), .val (.int t), .val (.int u1), .val (.int u2), .val (.int k), .val (.int g), .val (.int s1), .val (.int s2), .val (.int s3), .val (.ref o), .val (.long J), .second, .val (.int D), .val (.long ((Int32.ofNat (n / 128)).toInt64)), .second, .val (.long ((J + (D.toInt64 <<< ((6 - u2).toInt64 &&& 63))) >>> ((6 : Int32).toInt64 &&& 63))), .second] [(.long ((Int32.ofNat (n / 128)).toInt64))])) _
  refine XT.lload X2.here hx rfl (hb hby at_310) rfl ?_
  show Steps p.tables e below (T2.setTop (mkF m 312 #[.val (.int v0), .val (.int v1), .val (.int v2), .val (.int v3), .val (.int t), .val (.int u1), .val (.int u2), .val (.int k), .val (.int g), .val (.int s1), .val (.int s2), .val (.int s3), .val (.ref o), .val (.long J), .second, .val (.int D), .val (.long ((Int32.ofNat (n / 128)).toInt64)), .second, .val (.long ((J + (D.toInt64 <<< ((6 - u2).toInt64 &&& 63))) >>> ((6 : Int32).toInt64 &&& 63))), .second] [(.long ((J + (D.toInt64 <<< ((6 - u2).toInt64 &&& 63))) >>> ((6 : Int32).toInt64 &&& 63))), (.long ((Int32.ofNat (n / 128)).toInt64))])) _
  refine XT.lcmp X2.here hx rfl (hb hby at_312) rfl ?_
  show Steps p.tables e below (T2.setTop (mkF m 313 #[.val (.int v0), .val (.int v1), .val (.int v2), .val (.int v3), .val (.int t), .val (.int u1), .val (.int u2), .val (.int k), .val (.int g), .val (.int s1), .val (.int s2), .val (.int s3), .val (.ref o), .val (.long J), .second, .val (.int D), .val (.long ((Int32.ofNat (n / 128)).toInt64)), .second, .val (.long ((J + (D.toInt64 <<< ((6 - u2).toInt64 &&& 63))) >>> ((6 : Int32).toInt64 &&& 63))), .second] [(.int (XT.cmpL ((Int32.ofNat (n / 128)).toInt64) ((J + (D.toInt64 <<< ((6 - u2).toInt64 &&& 63))) >>> ((6 : Int32).toInt64 &&& 63))))])) _
  refine XS.ifNo X2.here hx rfl (hb hby at_313) rfl (XT.ll_ne_f heq) ?_
  show Steps p.tables e below (T2.setTop (mkF m 316 #[.val (.int v0), .val (.int v1), .val (.int v2), .val (.int v3), .val (.int t), .val (.int u1), .val (.int u2), .val (.int k), .val (.int g), .val (.int s1), .val (.int s2), .val (.int s3), .val (.ref o), .val (.long J), .second, .val (.int D), .val (.long ((Int32.ofNat (n / 128)).toInt64)), .second, .val (.long ((J + (D.toInt64 <<< ((6 - u2).toInt64 &&& 63))) >>> ((6 : Int32).toInt64 &&& 63))), .second] [])) _
  refine XT.iconstV X2.here hx rfl 1 (hb hby at_316) rfl ?_
  show Steps p.tables e below (T2.setTop (mkF m 317 #[.val (.int v0), .val (.int v1), .val (.int v2), .val (.int v3), .val (.int t), .val (.int u1), .val (.int u2), .val (.int k), .val (.int g), .val (.int s1), .val (.int s2), .val (.int s3), .val (.ref o), .val (.long J), .second, .val (.int D), .val (.long ((Int32.ofNat (n / 128)).toInt64)), .second, .val (.long ((J + (D.toInt64 <<< ((6 - u2).toInt64 &&& 63))) >>> ((6 : Int32).toInt64 &&& 63))), .second] [(.int 1)])) _
  refine XS.goto X2.here hx rfl rfl (hb hby at_317) (show (0 : Int) ≤ ((317 : Nat) : Int) + (4) by decide) (show (((317 : Nat) : Int) + (4)).toNat = 321 by decide) ?_
  show Steps p.tables e below (T2.setTop (mkF m 321 #[.val (.int v0), .val (.int v1), .val (.int v2), .val (.int v3), .val (.int t), .val (.int u1), .val (.int u2), .val (.int k), .val (.int g), .val (.int s1), .val (.int s2), .val (.int s3), .val (.ref o), .val (.long J), .second, .val (.int D), .val (.long ((Int32.ofNat (n / 128)).toInt64)), .second, .val (.long ((J + (D.toInt64 <<< ((6 - u2).toInt64 &&& 63))) >>> ((6 : Int32).toInt64 &&& 63))), .second] [(.int 1)])) _
  exact k'
end OwnLaw
/-! ## Numbers -/
section OwnNum
open Jvm.FP Jvm.Free.Fl
theorem own_mask (x : Int32) (k : Nat) (hk : k ≤ 31) : x &&& Int32.ofNat (2 ^ k - 1) = Int32.ofNat (x.toBitVec.toNat % 2 ^ k) := by
  refine Int32.toBitVec_inj.mp (BitVec.eq_of_toNat_eq ?_)
  show x.toBitVec.toNat &&& ((2 ^ k - 1) % 2 ^ 32) = (x.toBitVec.toNat % 2 ^ k) % 2 ^ 32
  have h1 : 2 ^ k ≤ 2 ^ 31 := Nat.pow_le_pow_right (by decide) hk
  have h2 := Nat.mod_lt x.toBitVec.toNat (Nat.two_pow_pos k)
  rw [Nat.mod_eq_of_lt (a := 2 ^ k - 1) (b := 2 ^ 32) (by omega), Nat.and_two_pow_sub_one_eq_mod, Nat.mod_eq_of_lt (a := x.toBitVec.toNat % 2 ^ k) (b := 2 ^ 32) (by omega)]
theorem own_m30 (x : Int32) : ∃ n, n < 2 ^ 30 ∧ x &&& 1073741823 = Int32.ofNat n := ⟨_, Nat.mod_lt _ (Nat.two_pow_pos 30), own_mask x 30 (by decide)⟩
theorem own_m3 (x : Int32) : ∃ n, n < 8 ∧ x &&& 7 = Int32.ofNat n := ⟨_, Nat.mod_lt _ (Nat.two_pow_pos 3), own_mask x 3 (by decide)⟩
theorem own_m2 (x : Int32) : ∃ n, n < 4 ∧ x &&& 3 = Int32.ofNat n := ⟨_, Nat.mod_lt _ (Nat.two_pow_pos 2), own_mask x 2 (by decide)⟩
theorem own_m2p (x : Int32) : ∃ n, 1 ≤ n ∧ n ≤ 4 ∧ 1 + (x &&& 3) = Int32.ofNat n := by
  obtain ⟨n, h1, h2⟩ := own_m2 x
  refine ⟨1 + n, by omega, by omega, ?_⟩
  rw [h2]
  have : ∀ n : Fin 4, (1 : Int32) + Int32.ofNat n.val = Int32.ofNat (1 + n.val) := by decide +kernel
  exact this ⟨n, h1⟩
def own_rb (a : Nat) : UInt64 := if a = 7 then 0 else own_enc (32 * 2 ^ a)
theorem own_rateH {a : Nat} (h : a < 8) : (Int32.ofNat a = 7 ∧ own_rb a = 0) ∨ (¬ Int32.ofNat a = 7 ∧ FP.dmul (FP.i2d ((1 : Int32) <<< (Int32.ofNat a &&& 31))) 4598175219545276416 = own_rb a ∧ NoNaN64 (own_rb a)) := by
  have : ∀ a : Fin 8, (Int32.ofNat a.val = 7 ∧ own_rb a.val = 0) ∨ (¬ Int32.ofNat a.val = 7 ∧ FP.dmul (FP.i2d ((1 : Int32) <<< (Int32.ofNat a.val &&& 31))) 4598175219545276416 = own_rb a.val ∧ own_rb a.val &&& 0x7fffffffffffffff ≤ 0x7ff0000000000000) := by decide +kernel
  exact this ⟨a, h⟩
theorem own_rb_pos {a : Nat} (h : a < 7) : cmpValue (FP.dcmp (own_rb a) 0) .l = 1 := by
  have : ∀ a : Fin 7, cmpValue (FP.dcmp (own_rb a.val) 0) .l = 1 := by decide +kernel
  exact this ⟨a, h⟩
theorem own_rb_zero : cmpValue (FP.dcmp (own_rb 7) 0) .l = 0 := by decide +kernel
theorem own_share {b : Nat} (h : b < 5) : FP.dmul (FP.i2d (Int32.ofNat b)) 4598175219545276416 = own_enc (32 * b) := by
  have : ∀ b : Fin 5, FP.dmul (FP.i2d (Int32.ofNat b.val)) 4598175219545276416 = own_enc (32 * b.val) := by decide +kernel
  exact this ⟨b, h⟩
theorem own_div {b a : Nat} (hb : b < 13) (ha : a < 7) : FP.ddiv (own_enc (32 * b)) (own_rb a) = own_enc (b * 2 ^ (7 - a)) := by
  have : ∀ (b : Fin 13) (a : Fin 7), FP.ddiv (own_enc (32 * b.val)) (own_rb a.val) = own_enc (b.val * 2 ^ (7 - a.val)) := by decide +kernel
  exact this ⟨b, hb⟩ ⟨a, ha⟩
theorem own_cmpBD {b d : Nat} (hb : b < 13) (hd : d ≤ b) : cmpValue (FP.dcmp (own_enc (32 * b)) (own_enc (32 * d))) .l = if b = d then 0 else 1 := by
  have : ∀ (b d : Fin 13), d.val ≤ b.val → cmpValue (FP.dcmp (own_enc (32 * b.val)) (own_enc (32 * d.val))) .l = if b.val = d.val then 0 else 1 := by decide +kernel
  exact this ⟨b, hb⟩ ⟨d, by omega⟩ hd
theorem own_sub {b d : Nat} (hb : b < 13) (hd : d ≤ b) : FP.dsub (own_enc (32 * b)) (own_enc (32 * d)) = own_enc (32 * (b - d)) := by
  have : ∀ (b d : Fin 13), d.val ≤ b.val → FP.dsub (own_enc (32 * b.val)) (own_enc (32 * d.val)) = own_enc (32 * (b.val - d.val)) := by decide +kernel
  exact this ⟨b, hb⟩ ⟨d, by omega⟩ hd
theorem own_enc0 : own_enc 0 = 0 := by decide +kernel
theorem own_piece_v {b a : Nat} (hb : b < 5) (ha : a < 7) : (Int32.ofNat b).toInt64 <<< ((6 - Int32.ofNat a).toInt64 &&& 63) = Int64.ofNat (b * 2 ^ (6 - a)) := by
  have : ∀ (b : Fin 5) (a : Fin 7), (Int32.ofNat b.val).toInt64 <<< ((6 - Int32.ofNat a.val).toInt64 &&& 63) = Int64.ofNat (b.val * 2 ^ (6 - a.val)) := by decide +kernel
  exact this ⟨b, hb⟩ ⟨a, ha⟩
theorem own_i2l {k : Nat} (h : k < 2 ^ 31) : (Int32.ofNat k).toInt64 = Int64.ofNat k := by
  refine Int64.toInt_inj.mp ?_
  rw [Int32.toInt_toInt64, Int32.toInt_ofNat_of_lt h, Int64.toInt_ofNat_of_lt (by omega)]
theorem own_ltL {a b : Nat} (ha : a < 2 ^ 31) (hb : b < 2 ^ 31) : (Int32.ofNat a).toInt64 < (Int32.ofNat b).toInt64 ↔ a < b := by
  rw [Int64.lt_iff_toInt_lt, Int32.toInt_toInt64, Int32.toInt_toInt64, Int32.toInt_ofNat_of_lt ha, Int32.toInt_ofNat_of_lt hb]; omega
theorem own_shl6 {n : Nat} : (Int64.ofNat n) <<< ((6 : Int32).toInt64 &&& 63) = Int64.ofNat (64 * n) := by
  refine Int64.toBitVec_inj.mp (BitVec.eq_of_toNat_eq ?_)
  show ((BitVec.ofNat 64 n) <<< (((6 : Int32).toInt64 &&& 63).toBitVec.smod 64)).toNat = (64 * n) % 2 ^ 64
  rw [show ((6 : Int32).toInt64 &&& 63).toBitVec.smod 64 = 6#64 from by decide, BitVec.shiftLeft_eq', BitVec.toNat_shiftLeft]
  show (n % 2 ^ 64) <<< 6 % 2 ^ 64 = _
  rw [Nat.shiftLeft_eq]; omega
theorem own_shr6 {n : Nat} (h : n < 2 ^ 62) : (Int64.ofNat n) >>> ((6 : Int32).toInt64 &&& 63) = Int64.ofNat (n / 64) := by
  refine Int64.toBitVec_inj.mp (BitVec.eq_of_toNat_eq ?_)
  show ((BitVec.ofNat 64 n).sshiftRight' (((6 : Int32).toInt64 &&& 63).toBitVec.smod 64)).toNat = (n / 64) % 2 ^ 64
  rw [show ((6 : Int32).toInt64 &&& 63).toBitVec.smod 64 = 6#64 from by decide]
  show ((BitVec.ofNat 64 n).sshiftRight 6).toNat = _
  have hm : (BitVec.ofNat 64 n).msb = false := by
    rw [BitVec.msb_eq_false_iff_two_mul_lt, BitVec.toNat_ofNat]; omega
  rw [BitVec.sshiftRight_eq_of_msb_false hm, BitVec.toNat_ushiftRight, BitVec.toNat_ofNat, Nat.shiftRight_eq_div_pow]
  omega
theorem own_now {a b : Nat} (h : a < 2 ^ 31) : (Int32.ofNat a).toInt64.toInt32 + Int32.ofNat b = Int32.ofNat (a + b) := by
  rw [Int32.toInt32_toInt64, Int32.ofNat_add]
theorem own_addL {a b : Nat} : Int64.ofNat a + Int64.ofNat b = Int64.ofNat (a + b) := (Int64.ofNat_add a b).symm
end OwnNum
/-! ## The pieces joined (printed by gen460_main.py) -/
section OwnMain
open Jvm.Free.Hsc Jvm.Free.Fl Jvm.FP
variable {p : Program} {l : Launch} {e : Env} {s : State} {m : MethodId} {args : Array Value} {below : List Frame} {meth : Method} {c : Code} {T : State} {locs : List Loc} {Z : State} {a0 : Array Value} {h : Heap} {n0 : Nat}
theorem own_p7 {a : Nat} (h : a < 7) : 2 ^ (7 - a) = 2 * 2 ^ (6 - a) := by rw [show 7 - a = (6 - a) + 1 from by omega, Nat.pow_succ, Nat.mul_comm]
theorem own_p6 (a : Nat) : 2 ^ (6 - a) ≤ 64 := Nat.pow_le_pow_right (n := 2) (by decide) (by omega : 6 - a ≤ 6)
theorem own_even {x y : Nat} (h : x = 2 * y) : x % 128 ≤ 126 := by omega
theorem own_fin_u (X : Stand p l e room_1 s m args below meth c T locs 1 4) (hx : p.tables.exec = Jvm.exec) (hZ : Z.Warmed39 s.vm) (hw : ∀ d ∈ tables_1, d.before a0 Z = true) (hby : c.code = code) (hml : c.maxLocals = 20) (hown : s.vm.findClass "com/example/herring/herring/sim/FlowCapacitySetCarsPerSecondPinLaw" = some m.cls) (eT : T.heap = h) (N0 : Fr n0 locs) (Z0 : n0 ≤ h.size) (O : Old Z n0 h) (S0 : Sta Z Z.heap "java/lang/StrictMath" "$assertionsDisabled" "Z" (.int 1)) {v0 v1 v2 v3 t e1 k g s1 s2 s3 : Int32} {o : Addr} (go : n0 ≤ o) {a1 a2 A B D LT : Nat} (ha1 : a1 < 8) (ha2 : a2 < 8) (hB : B ≤ 12) (hD : D ≤ B) (hD4 : D ≤ 4) (hLT : LT < 2 ^ 36 + 2 ^ 13) (hL : LT = A + (B - D) * 2 ^ (6 - a1)) (h7 : a1 = 7 → B = D) (F : own_FC Z h o (own_rb a1) (own_enc (2 * A)) (own_enc (32 * B)) (own_enc (32 * D))) :
    ∃ T' L' Ls', Stand p l e room_1 s m args below meth c T' L' 1 4 ∧ Fr n0 L' ∧ ∀ target, Steps p.tables e below (T'.setTop (mkF m 321 Ls' [(.int 1)])) target → Steps p.tables e below (T.setTop (mkF m 261 #[.val (.int v0), .val (.int v1), .val (.int v2), .val (.int v3), .val (.int t), .val (.int e1), .val (.int (Int32.ofNat a2)), .val (.int k), .val (.int g), .val (.int s1), .val (.int s2), .val (.int s3), .val (.ref o), .val (.long (Int64.ofNat LT)), .second, .val (.int (Int32.ofNat D)), .unset, .unset, .unset, .unset] [])) target := by
  have H : (own_enc (32 * B) = own_enc (32 * D) ∧ own_enc (2 * LT) = own_enc (2 * A) ∧ cmpValue (FP.dcmp (own_enc (32 * B)) (own_enc (32 * D))) .l = 0) ∨ ∃ d q, cmpValue (FP.dcmp (own_enc (32 * B)) (own_enc (32 * D))) .l = 1 ∧ FP.dsub (own_enc (32 * B)) (own_enc (32 * D)) = d ∧ NoNaN64 d ∧ FP.ddiv d (own_rb a1) = q ∧ NoNaN64 q ∧ FP.dadd (own_enc (2 * A)) q = own_enc (2 * LT) ∧ NoNaN64 (own_enc (2 * LT)) := by
    by_cases hBD : B = D
    · refine Or.inl ⟨by rw [hBD], ?_, by rw [own_cmpBD (by omega) hD, if_pos hBD]⟩
      rw [hL, hBD, Nat.sub_self, Nat.zero_mul, Nat.add_zero]
    · have ha : a1 < 7 := by
        refine Nat.lt_of_le_of_ne (by omega) fun q => hBD (h7 q)
      have hP := own_p7 ha
      have hP6 := own_p6 a1
      have hm : (B - D) * 2 ^ (6 - a1) ≤ 12 * 64 := Nat.mul_le_mul (by omega) hP6
      have e2 : 2 * LT = 2 * A + (B - D) * 2 ^ (7 - a1) := by rw [hL, hP, Nat.mul_add, Nat.mul_left_comm]
      have hm2 : (B - D) * 2 ^ (7 - a1) ≤ 2 * (12 * 64) := by rw [hP, Nat.mul_left_comm]; omega
      refine Or.inr ⟨_, _, by rw [own_cmpBD (by omega) hD, if_neg hBD], own_sub (by omega) hD, own_nn (by omega), own_div (by omega) ha, own_nn (by omega), ?_, own_nn (by omega)⟩
      rw [e2]
      exact own_dadd (by omega) (by omega)
  obtain ⟨T1, h1, L1, X1, e1', N1, Z1, O1, F1, st1⟩ := own_s5u (z1 := 0) (z2 := 0) X hx hZ hw hby hml hown eT N0 Z0 O S0 go F (own_rateH ha2) H
  by_cases h2 : a2 = 7
  · subst h2
    obtain ⟨T2, h2, L2, X2, e2', N2, Z2, O2, st2⟩ := own_s6u7 (z1 := 0) (z2 := 0) (u2 := Int32.ofNat 7) X1 hx hZ hw hby hml hown e1' N1 Z1 O1 S0 go F1 (by decide) own_rb_zero
    exact ⟨T2, L2, _, X2, N2, fun target k' => st1 _ (st2 _ k')⟩
  · have ha : a2 < 7 := by omega
    have hP := own_p7 ha
    have hP6 := own_p6 a2
    have hm : D * 2 ^ (6 - a2) ≤ 4 * 64 := Nat.mul_le_mul hD4 hP6
    have e2 : 2 * LT + D * 2 ^ (7 - a2) = 2 * (LT + D * 2 ^ (6 - a2)) := by rw [hP, Nat.mul_add, Nat.mul_left_comm]
    have hm2 : D * 2 ^ (7 - a2) ≤ 2 * (4 * 64) := by rw [hP, Nat.mul_left_comm]; omega
    obtain ⟨T2, h2, L2, X2, e2', N2, Z2, O2, st2⟩ := own_s6u (z1 := 0) (z2 := 0) (J := Int64.ofNat LT) (D := Int32.ofNat D) (n := 2 * LT + D * 2 ^ (7 - a2)) (q := own_enc (D * 2 ^ (7 - a2))) X1 hx hZ hw hby hml hown e1' N1 Z1 O1 S0 go F1 (by omega) (own_even e2) (own_rb_pos ha) (own_div (by omega) ha) (own_nn (by omega)) (own_dadd (by omega) (by omega)) (by
        have : ∀ z : Fin 7, ¬ Int32.ofNat z.val = 7 := by decide +kernel
        exact this ⟨a2, ha⟩) (by
        rw [own_piece_v (b := D) (by omega) ha, own_addL, own_shr6 (by omega), own_i2l (by omega), e2]
        congr 1
        omega)
    exact ⟨T2, L2, _, X2, N2, fun target k' => st1 _ (st2 _ k')⟩
theorem own_fin_i (X : Stand p l e room_1 s m args below meth c T locs 1 4) (hx : p.tables.exec = Jvm.exec) (hZ : Z.Warmed39 s.vm) (hw : ∀ d ∈ tables_1, d.before a0 Z = true) (hby : c.code = code) (hml : c.maxLocals = 20) (hown : s.vm.findClass "com/example/herring/herring/sim/FlowCapacitySetCarsPerSecondPinLaw" = some m.cls) (eT : T.heap = h) (N0 : Fr n0 locs) (Z0 : n0 ≤ h.size) (O : Old Z n0 h) (S0 : Sta Z Z.heap "java/lang/StrictMath" "$assertionsDisabled" "Z" (.int 1)) {v0 v1 v2 v3 t e1 k g s1 s2 s3 z1 z2 : Int32} {o : Addr} (go : n0 ≤ o) {a1 a2 A B D LT : Nat} (ha1 : a1 < 8) (ha2 : a2 < 8) (hB : B ≤ 12) (hD : D ≤ B) (hD4 : D ≤ 4) (hLT : LT < 2 ^ 36 + 2 ^ 13) (hL : LT = A + (B - D) * 2 ^ (6 - a1)) (h7 : a1 = 7 → B = D) (F : own_FC Z h o (own_rb a1) (own_enc (2 * A)) (own_enc (32 * B)) (own_enc (32 * D))) :
    ∃ T' L' Ls', Stand p l e room_1 s m args below meth c T' L' 1 4 ∧ Fr n0 L' ∧ ∀ target, Steps p.tables e below (T'.setTop (mkF m 321 Ls' [(.int 1)])) target → Steps p.tables e below (T.setTop (mkF m 261 #[.val (.int v0), .val (.int v1), .val (.int v2), .val (.int v3), .val (.int t), .val (.int e1), .val (.int (Int32.ofNat a2)), .val (.int k), .val (.int g), .val (.int s1), .val (.int s2), .val (.int s3), .val (.ref o), .val (.long (Int64.ofNat LT)), .second, .val (.int (Int32.ofNat D)), .val (.int z1), .val (.int z2), .unset, .unset] [])) target := by
  have H : (own_enc (32 * B) = own_enc (32 * D) ∧ own_enc (2 * LT) = own_enc (2 * A) ∧ cmpValue (FP.dcmp (own_enc (32 * B)) (own_enc (32 * D))) .l = 0) ∨ ∃ d q, cmpValue (FP.dcmp (own_enc (32 * B)) (own_enc (32 * D))) .l = 1 ∧ FP.dsub (own_enc (32 * B)) (own_enc (32 * D)) = d ∧ NoNaN64 d ∧ FP.ddiv d (own_rb a1) = q ∧ NoNaN64 q ∧ FP.dadd (own_enc (2 * A)) q = own_enc (2 * LT) ∧ NoNaN64 (own_enc (2 * LT)) := by
    by_cases hBD : B = D
    · refine Or.inl ⟨by rw [hBD], ?_, by rw [own_cmpBD (by omega) hD, if_pos hBD]⟩
      rw [hL, hBD, Nat.sub_self, Nat.zero_mul, Nat.add_zero]
    · have ha : a1 < 7 := by
        refine Nat.lt_of_le_of_ne (by omega) fun q => hBD (h7 q)
      have hP := own_p7 ha
      have hP6 := own_p6 a1
      have hm : (B - D) * 2 ^ (6 - a1) ≤ 12 * 64 := Nat.mul_le_mul (by omega) hP6
      have e2 : 2 * LT = 2 * A + (B - D) * 2 ^ (7 - a1) := by rw [hL, hP, Nat.mul_add, Nat.mul_left_comm]
      have hm2 : (B - D) * 2 ^ (7 - a1) ≤ 2 * (12 * 64) := by rw [hP, Nat.mul_left_comm]; omega
      refine Or.inr ⟨_, _, by rw [own_cmpBD (by omega) hD, if_neg hBD], own_sub (by omega) hD, own_nn (by omega), own_div (by omega) ha, own_nn (by omega), ?_, own_nn (by omega)⟩
      rw [e2]
      exact own_dadd (by omega) (by omega)
  obtain ⟨T1, h1, L1, X1, e1', N1, Z1, O1, F1, st1⟩ := own_s5i X hx hZ hw hby hml hown eT N0 Z0 O S0 go F (own_rateH ha2) H
  by_cases h2 : a2 = 7
  · subst h2
    obtain ⟨T2, h2, L2, X2, e2', N2, Z2, O2, st2⟩ := own_s6i7 (u2 := Int32.ofNat 7) X1 hx hZ hw hby hml hown e1' N1 Z1 O1 S0 go F1 (by decide) own_rb_zero
    exact ⟨T2, L2, _, X2, N2, fun target k' => st1 _ (st2 _ k')⟩
  · have ha : a2 < 7 := by omega
    have hP := own_p7 ha
    have hP6 := own_p6 a2
    have hm : D * 2 ^ (6 - a2) ≤ 4 * 64 := Nat.mul_le_mul hD4 hP6
    have e2 : 2 * LT + D * 2 ^ (7 - a2) = 2 * (LT + D * 2 ^ (6 - a2)) := by rw [hP, Nat.mul_add, Nat.mul_left_comm]
    have hm2 : D * 2 ^ (7 - a2) ≤ 2 * (4 * 64) := by rw [hP, Nat.mul_left_comm]; omega
    obtain ⟨T2, h2, L2, X2, e2', N2, Z2, O2, st2⟩ := own_s6i (J := Int64.ofNat LT) (D := Int32.ofNat D) (n := 2 * LT + D * 2 ^ (7 - a2)) (q := own_enc (D * 2 ^ (7 - a2))) X1 hx hZ hw hby hml hown e1' N1 Z1 O1 S0 go F1 (by omega) (own_even e2) (own_rb_pos ha) (own_div (by omega) ha) (own_nn (by omega)) (own_dadd (by omega) (by omega)) (by
        have : ∀ z : Fin 7, ¬ Int32.ofNat z.val = 7 := by decide +kernel
        exact this ⟨a2, ha⟩) (by
        rw [own_piece_v (b := D) (by omega) ha, own_addL, own_shr6 (by omega), own_i2l (by omega), e2]
        congr 1
        omega)
    exact ⟨T2, L2, _, X2, N2, fun target k' => st1 _ (st2 _ k')⟩
theorem own_kk {a b : Nat} (ha : a < 4) (hb : b < 4) : (Int32.ofNat a < Int32.ofNat b ↔ a < b) ∧ (Int32.ofNat a = Int32.ofNat b ↔ a = b) := by
  have : ∀ a b : Fin 4, (Int32.ofNat a.val < Int32.ofNat b.val ↔ a.val < b.val) ∧ (Int32.ofNat a.val = Int32.ofNat b.val ↔ a.val = b.val) := by decide +kernel
  exact this ⟨a, ha⟩ ⟨b, hb⟩
set_option maxRecDepth 65536 in
set_option maxHeartbeats 4000000 in
theorem own_mid (X : Stand p l e room_1 s m args below meth c T locs 0 0) (hx : p.tables.exec = Jvm.exec) (hZ : Z.Warmed39 s.vm) (hw : ∀ d ∈ tables_1, d.before a0 Z = true) (hby : c.code = code) (hml : c.maxLocals = 20) (hown : s.vm.findClass "com/example/herring/herring/sim/FlowCapacitySetCarsPerSecondPinLaw" = some m.cls) (eT : T.heap = h) (N0 : Fr n0 locs) (Z0 : n0 ≤ h.size) (O : Old Z n0 h) (S0 : Sta Z Z.heap "java/lang/StrictMath" "$assertionsDisabled" "Z" (.int 1)) {v0 v1 v2 v3 : Int32} {tn a1 a2 kn gn b1 b2 b3 : Nat} (htn : tn < 2 ^ 30) (ha1 : a1 < 8) (ha2 : a2 < 8) (hkn : kn < 4) (hk7 : a1 = 7 → kn = 0) (hgn : gn < 4) (hb1 : 1 ≤ b1 ∧ b1 ≤ 4) (hb2 : 1 ≤ b2 ∧ b2 ≤ 4) (hb3 : 1 ≤ b3 ∧ b3 ≤ 4) :
    ∃ T' L' Ls', Stand p l e room_1 s m args below meth c T' L' 1 4 ∧ Fr n0 L' ∧ ∀ target, Steps p.tables e below (T'.setTop (mkF m 321 Ls' [(.int 1)])) target → Steps p.tables e below (T.setTop (mkF m 68 #[.val (.int v0), .val (.int v1), .val (.int v2), .val (.int v3), .val (.int (Int32.ofNat tn)), .val (.int (Int32.ofNat a1)), .val (.int (Int32.ofNat a2)), .val (.int (Int32.ofNat kn)), .val (.int (Int32.ofNat gn)), .val (.int (Int32.ofNat b1)), .val (.int (Int32.ofNat b2)), .val (.int (Int32.ofNat b3)), .unset, .unset, .unset, .unset, .unset, .unset, .unset, .unset] [])) target := by
  obtain ⟨T1, h1, L1, X1, e1, N1, Z1, O1, o, go, F1, st1⟩ := own_sA (q1 := own_rb a1) X hx hZ hw hby hml hown eT N0 Z0 O S0 (own_rateH ha1)
  have F1' : own_FC Z h1 o (own_rb a1) (own_enc (2 * 0)) (own_enc (32 * 0)) (own_enc (32 * 0)) := by
    show own_FC Z h1 o (own_rb a1) (own_enc 0) (own_enc 0) (own_enc 0)
    rw [own_enc0]; exact F1
  have hk1 : ∀ j, j < 4 → (Int32.ofNat kn < Int32.ofNat j ↔ kn < j) := fun j hj => (own_kk hkn hj).1
  by_cases k0 : kn < 1
  · obtain ⟨T2, h2, L2, X2, e2, N2, Z2, O2, F2, st2⟩ := own_k1 (z1 := 0) (z2 := 0) X1 hx hZ hw hby hml hown e1 N1 Z1 O1 S0 go F1 ((hk1 1 (by omega)).mpr k0)
    obtain ⟨T3, h3, L3, X3, e3, N3, Z3, O3, F3, st3⟩ := own_k2 (z1 := 0) (z2 := 0) X2 hx hZ hw hby hml hown e2 N2 Z2 O2 S0 go F2 ((hk1 2 (by omega)).mpr (by omega))
    obtain ⟨T4, h4, L4, X4, e4, N4, Z4, O4, F4, st4⟩ := own_k3u (z1 := 0) (z2 := 0) X3 hx hZ hw hby hml hown e3 N3 Z3 O3 S0 go F3 ((hk1 3 (by omega)).mpr (by omega))
    have F4' : own_FC Z h4 o (own_rb a1) (own_enc (2 * 0)) (own_enc (32 * 0)) (own_enc (32 * 0)) := by
      show own_FC Z h4 o (own_rb a1) (own_enc 0) (own_enc 0) (own_enc 0)
      rw [own_enc0]; exact F4
    obtain ⟨T5, L5, Ls5, X5, N5, st5⟩ := own_fin_u (LT := 0) (A := 0) (B := 0) (D := 0) X4 hx hZ hw hby hml hown e4 N4 Z4 O4 S0 go ha1 ha2 (by omega) (by omega) (by omega) (by omega) (by omega) (fun _ => rfl) F4'
    exact ⟨T5, L5, Ls5, X5, N5, fun target k' => st1 _ (st2 _ (st3 _ (st4 _ (st5 _ k'))))⟩
  have ha : a1 < 7 := by
    refine Nat.lt_of_le_of_ne (by omega) fun q => k0 (by have := hk7 q; omega)
  have hP := own_p7 ha
  have hP6 := own_p6 a1
  have nb : ∀ {b : Nat}, b ≤ 12 → b * 2 ^ (6 - a1) ≤ 768 := fun {b} hb => Nat.le_trans (Nat.mul_le_mul hb hP6) (by decide)
  have pb : ∀ b : Nat, b * 2 ^ (7 - a1) = 2 * (b * 2 ^ (6 - a1)) := fun b => by rw [hP, Nat.mul_left_comm]
  -- the first vehicle
  have H1 : ((Int32.ofNat (0 / 128)).toInt64 < (Int32.ofNat tn).toInt64 ∧ own_enc (2 * (64 * tn)) = FP.i2d (Int32.ofNat tn) ∧ FP.dadd 0 (own_enc (32 * b1)) = own_enc (32 * b1)) ∨ (¬ (Int32.ofNat (0 / 128)).toInt64 < (Int32.ofNat tn).toInt64 ∧ own_enc (2 * (64 * tn)) = own_enc (2 * 0) ∧ FP.dadd (own_enc (32 * 0)) (own_enc (32 * b1)) = own_enc (32 * b1)) := by
    by_cases ht : 0 < tn
    · refine Or.inl ⟨(own_ltL (by omega) (by omega)).mpr ht, ?_, ?_⟩
      · rw [show FP.i2d (Int32.ofNat tn) = own_enc (128 * tn) from own_i2d (by omega)]; congr 1; omega
      · have := own_dadd (m := 0) (n := 32 * b1) (by omega) (by omega)
        rw [own_enc0, Nat.zero_add] at this; exact this
    · refine Or.inr ⟨fun q => ht ((own_ltL (by omega) (by omega)).mp q), by congr 1; omega, ?_⟩
      have := own_dadd (m := 32 * 0) (n := 32 * b1) (by omega) (by omega)
      rw [Nat.mul_zero, Nat.zero_add] at this; exact this
  obtain ⟨T2, h2, L2, X2, e2, N2, Z2, O2, F2, st2⟩ := own_s2 (n := 0) (q := own_enc 0) (x := own_enc (32 * b1)) X1 hx hZ hw hby hml hown e1 N1 Z1 O1 S0 go F1' (by decide) (by decide) (own_rb_pos ha) (by have := own_div (b := 0) (by omega) ha; rw [Nat.zero_mul] at this; exact this) (own_nn (by omega)) (own_dadd (m := 2 * 0) (n := 0) (by omega) (by omega)) (own_nn (by omega)) (fun q => k0 ((hk1 1 (by omega)).mp q)) (own_share (by omega)) (own_nn (by omega)) H1
  have J2 : (Int32.ofNat tn).toInt64 <<< ((6 : Int32).toInt64 &&& 63) = Int64.ofNat (64 * tn) := by rw [own_i2l (by omega), own_shl6]
  rw [J2] at st2
  by_cases k1 : kn < 2
  · obtain ⟨T3, h3, L3, X3, e3, N3, Z3, O3, F3, st3⟩ := own_k2 (z1 := 0) (z2 := 0) X2 hx hZ hw hby hml hown e2 N2 Z2 O2 S0 go F2 ((hk1 2 (by omega)).mpr (by omega))
    obtain ⟨T4, h4, L4, X4, e4, N4, Z4, O4, F4, st4⟩ := own_k3u (z1 := 0) (z2 := 0) X3 hx hZ hw hby hml hown e3 N3 Z3 O3 S0 go F3 ((hk1 3 (by omega)).mpr (by omega))
    obtain ⟨T5, L5, Ls5, X5, N5, st5⟩ := own_fin_u (LT := 64 * tn) (A := 64 * tn) (B := b1) (D := b1) X4 hx hZ hw hby hml hown e4 N4 Z4 O4 S0 go ha1 ha2 (by omega) (by omega) (by omega) (by omega) (by rw [Nat.sub_self, Nat.zero_mul]; rfl) (fun _ => rfl) F4
    exact ⟨T5, L5, Ls5, X5, N5, fun target k' => st1 _ (st2 _ (st3 _ (st4 _ (st5 _ k'))))⟩
  -- the second vehicle
  have n1e : 2 * (64 * tn) + b1 * 2 ^ (7 - a1) = 2 * (64 * tn + b1 * 2 ^ (6 - a1)) := by rw [pb, Nat.mul_add]
  have n1b := nb (b := b1) (by omega)
  obtain ⟨n1, hn1⟩ : ∃ n1, n1 = 2 * (64 * tn) + b1 * 2 ^ (7 - a1) := ⟨_, rfl⟩
  have hadd1 : FP.dadd (own_enc (2 * (64 * tn))) (own_enc (b1 * 2 ^ (7 - a1))) = own_enc n1 := by rw [hn1]; exact own_dadd (by omega) (by rw [pb]; omega)
  have hx12 : FP.dadd (own_enc (32 * b1)) (own_enc (32 * b2)) = own_enc (32 * (b1 + b2)) := by rw [Nat.mul_add]; exact own_dadd (by omega) (by omega)
  have n1l : n1 < 2 ^ 37 + 2 ^ 13 := by rw [hn1, n1e]; omega
  have n1v : n1 % 128 ≤ 126 := own_even (hn1.trans n1e)
  have hP1 : (Int32.ofNat b1).toInt64 <<< ((6 - Int32.ofNat a1).toInt64 &&& 63) = Int64.ofNat (b1 * 2 ^ (6 - a1)) := own_piece_v (by omega) ha
  by_cases k2 : kn = 2
  · by_cases hg : 0 < gn
    · have hg' : (0 : Int32) < Int32.ofNat gn := by have := (own_kk (a := 0) (b := gn) (by omega) hgn).1.mpr hg; exact this
      have hnow : (Int32.ofNat (n1 / 128)).toInt64.toInt32 + Int32.ofNat gn = Int32.ofNat (n1 / 128 + gn) := own_now (by omega)
      obtain ⟨T3, h3, L3, X3, e3, N3, Z3, O3, F3, st3⟩ := own_s3a (n := n1) (q := own_enc (b1 * 2 ^ (7 - a1))) (x := own_enc (32 * b2)) (x2 := own_enc (32 * b2)) (st := own_enc (2 * (64 * (n1 / 128 + gn)))) X2 hx hZ hw hby hml hown e2 N2 Z2 O2 S0 go F2 (by omega) n1v (own_rb_pos ha) (own_div (by omega) ha) (own_nn (by rw [pb]; omega)) hadd1 (own_nn (by omega)) (fun q => k1 ((hk1 2 (by omega)).mp q)) (own_share (by omega)) (own_nn (by omega)) (Or.inl ⟨by rw [hnow]; exact (own_ltL (by omega) (by omega)).mpr (by omega), by rw [hnow, show FP.i2d (Int32.ofNat (n1 / 128 + gn)) = own_enc (128 * (n1 / 128 + gn)) from own_i2d (by omega)]; congr 1; omega, by have := own_dadd (m := 0) (n := 32 * b2) (by omega) (by omega); rw [own_enc0, Nat.zero_add] at this; exact this⟩) ((own_kk (b := 2) hkn (by omega)).2.mpr k2) hg'
      have J3 : ((Int32.ofNat (n1 / 128)).toInt64.toInt32 + Int32.ofNat gn).toInt64 <<< ((6 : Int32).toInt64 &&& 63) = Int64.ofNat (64 * (n1 / 128 + gn)) := by rw [hnow, own_i2l (by omega), own_shl6]
      rw [J3] at st3
      obtain ⟨T4, h4, L4, X4, e4, N4, Z4, O4, F4, st4⟩ := own_k3i X3 hx hZ hw hby hml hown e3 N3 Z3 O3 S0 go F3 ((hk1 3 (by omega)).mpr (by omega))
      obtain ⟨T5, L5, Ls5, X5, N5, st5⟩ := own_fin_i (LT := 64 * (n1 / 128 + gn)) (A := 64 * (n1 / 128 + gn)) (B := b2) (D := b2) X4 hx hZ hw hby hml hown e4 N4 Z4 O4 S0 go ha1 ha2 (by omega) (by omega) (by omega) (by omega) (by rw [Nat.sub_self, Nat.zero_mul]; rfl) (fun _ => rfl) F4
      exact ⟨T5, L5, Ls5, X5, N5, fun target k' => st1 _ (st2 _ (st3 _ (st4 _ (st5 _ k'))))⟩
    · have hg0 : gn = 0 := by omega
      have hg' : ¬ (0 : Int32) < Int32.ofNat gn := fun q => hg ((own_kk (a := 0) (b := gn) (by omega) hgn).1.mp q)
      have hnow : (Int32.ofNat (n1 / 128)).toInt64.toInt32 + Int32.ofNat gn = Int32.ofNat (n1 / 128 + gn) := own_now (by omega)
      obtain ⟨T3, h3, L3, X3, e3, N3, Z3, O3, F3, st3⟩ := own_s3b (n := n1) (q := own_enc (b1 * 2 ^ (7 - a1))) (x := own_enc (32 * b2)) (x2 := own_enc (32 * (b1 + b2))) (st := own_enc (2 * (64 * tn))) X2 hx hZ hw hby hml hown e2 N2 Z2 O2 S0 go F2 (by omega) n1v (own_rb_pos ha) (own_div (by omega) ha) (own_nn (by rw [pb]; omega)) hadd1 (own_nn (by omega)) (fun q => k1 ((hk1 2 (by omega)).mp q)) (own_share (by omega)) (own_nn (by omega)) (Or.inr ⟨by rw [hnow]; exact fun q => by have := (own_ltL (by omega) (by omega)).mp q; omega, rfl, hx12⟩) ((own_kk (b := 2) hkn (by omega)).2.mpr k2) hg'
      have J3 : Int64.ofNat (64 * tn) + (Int32.ofNat b1).toInt64 <<< ((6 - Int32.ofNat a1).toInt64 &&& 63) = Int64.ofNat (64 * tn + b1 * 2 ^ (6 - a1)) := by rw [hP1, own_addL]
      rw [J3] at st3
      obtain ⟨T4, h4, L4, X4, e4, N4, Z4, O4, F4, st4⟩ := own_k3i X3 hx hZ hw hby hml hown e3 N3 Z3 O3 S0 go F3 ((hk1 3 (by omega)).mpr (by omega))
      obtain ⟨T5, L5, Ls5, X5, N5, st5⟩ := own_fin_i (LT := 64 * tn + b1 * 2 ^ (6 - a1)) (A := 64 * tn) (B := b1 + b2) (D := b2) X4 hx hZ hw hby hml hown e4 N4 Z4 O4 S0 go ha1 ha2 (by omega) (by omega) (by omega) (by omega) (by rw [Nat.add_sub_cancel]) (fun q => by omega) F4
      exact ⟨T5, L5, Ls5, X5, N5, fun target k' => st1 _ (st2 _ (st3 _ (st4 _ (st5 _ k'))))⟩
  have hnow0 : (Int32.ofNat (n1 / 128)).toInt64.toInt32 + 0 = Int32.ofNat (n1 / 128 + 0) := own_now (b := 0) (by omega)
  obtain ⟨T3, h3, L3, X3, e3, N3, Z3, O3, F3, st3⟩ := own_s3c (n := n1) (q := own_enc (b1 * 2 ^ (7 - a1))) (x := own_enc (32 * b2)) (x2 := own_enc (32 * (b1 + b2))) (st := own_enc (2 * (64 * tn))) X2 hx hZ hw hby hml hown e2 N2 Z2 O2 S0 go F2 (by omega) n1v (own_rb_pos ha) (own_div (by omega) ha) (own_nn (by rw [pb]; omega)) hadd1 (own_nn (by omega)) (fun q => k1 ((hk1 2 (by omega)).mp q)) (own_share (by omega)) (own_nn (by omega)) (Or.inr ⟨by rw [hnow0]; exact fun q => by have := (own_ltL (by omega) (by omega)).mp q; omega, rfl, hx12⟩) (fun q => k2 ((own_kk (b := 2) hkn (by omega)).2.mp q))
  have J3 : Int64.ofNat (64 * tn) + (Int32.ofNat b1).toInt64 <<< ((6 - Int32.ofNat a1).toInt64 &&& 63) = Int64.ofNat (64 * tn + b1 * 2 ^ (6 - a1)) := by rw [hP1, own_addL]
  rw [J3] at st3
  -- the third vehicle
  have n2e : 2 * (64 * tn) + (b1 + b2) * 2 ^ (7 - a1) = 2 * (64 * tn + (b1 + b2) * 2 ^ (6 - a1)) := by rw [pb, Nat.mul_add]
  have n2b := nb (b := b1 + b2) (by omega)
  obtain ⟨n2, hn2⟩ : ∃ n2, n2 = 2 * (64 * tn) + (b1 + b2) * 2 ^ (7 - a1) := ⟨_, rfl⟩
  have hadd2 : FP.dadd (own_enc (2 * (64 * tn))) (own_enc ((b1 + b2) * 2 ^ (7 - a1))) = own_enc n2 := by rw [hn2]; exact own_dadd (by omega) (by rw [pb]; omega)
  have n2l : n2 < 2 ^ 37 + 2 ^ 13 := by rw [hn2, n2e]; omega
  have n2v : n2 % 128 ≤ 126 := own_even (hn2.trans n2e)
  have hx123 : FP.dadd (own_enc (32 * (b1 + b2))) (own_enc (32 * b3)) = own_enc (32 * (b1 + b2 + b3)) := by rw [Nat.mul_add 32 (b1 + b2)]; exact own_dadd (by omega) (by omega)
  have hP2 : (Int32.ofNat b2).toInt64 <<< ((6 - Int32.ofNat a1).toInt64 &&& 63) = Int64.ofNat (b2 * 2 ^ (6 - a1)) := own_piece_v (by omega) ha
  have b2b := nb (b := b2) (by omega)
  have hnow : (Int32.ofNat (n2 / 128)).toInt64.toInt32 + Int32.ofNat gn = Int32.ofNat (n2 / 128 + gn) := own_now (by omega)
  by_cases hg : 0 < gn
  · have hg' : (0 : Int32) < Int32.ofNat gn := (own_kk (a := 0) (b := gn) (by omega) hgn).1.mpr hg
    obtain ⟨T4, h4, L4, X4, e4, N4, Z4, O4, F4, st4⟩ := own_s4a (n := n2) (q := own_enc ((b1 + b2) * 2 ^ (7 - a1))) (x := own_enc (32 * b3)) (x2 := own_enc (32 * b3)) (st := own_enc (2 * (64 * (n2 / 128 + gn)))) X3 hx hZ hw hby hml hown e3 N3 Z3 O3 S0 go F3 (by omega) n2v (own_rb_pos ha) (own_div (by omega) ha) (own_nn (by rw [pb]; omega)) hadd2 (own_nn (by omega)) (fun q => by have := (hk1 3 (by omega)).mp q; omega) (own_share (by omega)) (own_nn (by omega)) (Or.inl ⟨by rw [hnow]; exact (own_ltL (by omega) (by omega)).mpr (by omega), by rw [hnow, show FP.i2d (Int32.ofNat (n2 / 128 + gn)) = own_enc (128 * (n2 / 128 + gn)) from own_i2d (by omega)]; congr 1; omega, by have := own_dadd (m := 0) (n := 32 * b3) (by omega) (by omega); rw [own_enc0, Nat.zero_add] at this; exact this⟩) hg'
    have J4 : ((Int32.ofNat (n2 / 128)).toInt64.toInt32 + Int32.ofNat gn).toInt64 <<< ((6 : Int32).toInt64 &&& 63) = Int64.ofNat (64 * (n2 / 128 + gn)) := by rw [hnow, own_i2l (by omega), own_shl6]
    rw [J4] at st4
    obtain ⟨T5, L5, Ls5, X5, N5, st5⟩ := own_fin_i (LT := 64 * (n2 / 128 + gn)) (A := 64 * (n2 / 128 + gn)) (B := b3) (D := b3) X4 hx hZ hw hby hml hown e4 N4 Z4 O4 S0 go ha1 ha2 (by omega) (by omega) (by omega) (by omega) (by rw [Nat.sub_self, Nat.zero_mul]; rfl) (fun _ => rfl) F4
    exact ⟨T5, L5, Ls5, X5, N5, fun target k' => st1 _ (st2 _ (st3 _ (st4 _ (st5 _ k'))))⟩
  · have hg' : ¬ (0 : Int32) < Int32.ofNat gn := fun q => hg ((own_kk (a := 0) (b := gn) (by omega) hgn).1.mp q)
    obtain ⟨T4, h4, L4, X4, e4, N4, Z4, O4, F4, st4⟩ := own_s4b (n := n2) (q := own_enc ((b1 + b2) * 2 ^ (7 - a1))) (x := own_enc (32 * b3)) (x2 := own_enc (32 * (b1 + b2 + b3))) (st := own_enc (2 * (64 * tn))) X3 hx hZ hw hby hml hown e3 N3 Z3 O3 S0 go F3 (by omega) n2v (own_rb_pos ha) (own_div (by omega) ha) (own_nn (by rw [pb]; omega)) hadd2 (own_nn (by omega)) (fun q => by have := (hk1 3 (by omega)).mp q; omega) (own_share (by omega)) (own_nn (by omega)) (Or.inr ⟨by rw [hnow]; exact fun q => by have := (own_ltL (by omega) (by omega)).mp q; omega, rfl, hx123⟩) hg'
    have J4 : Int64.ofNat (64 * tn + b1 * 2 ^ (6 - a1)) + (Int32.ofNat b2).toInt64 <<< ((6 - Int32.ofNat a1).toInt64 &&& 63) = Int64.ofNat (64 * tn + b1 * 2 ^ (6 - a1) + b2 * 2 ^ (6 - a1)) := by rw [hP2, own_addL]
    rw [J4] at st4
    obtain ⟨T5, L5, Ls5, X5, N5, st5⟩ := own_fin_i (LT := 64 * tn + b1 * 2 ^ (6 - a1) + b2 * 2 ^ (6 - a1)) (A := 64 * tn) (B := b1 + b2 + b3) (D := b3) X4 hx hZ hw hby hml hown e4 N4 Z4 O4 S0 go ha1 ha2 (by omega) (by omega) (by omega) (by omega) (by rw [Nat.add_sub_cancel, Nat.add_mul, Nat.add_assoc]) (fun q => by omega) F4
    exact ⟨T5, L5, Ls5, X5, N5, fun target k' => st1 _ (st2 _ (st3 _ (st4 _ (st5 _ k'))))⟩
def own_Q0 (n0 : Nat) (v : Option Value) (h : Heap) (L : List Loc) : Prop := v = some (.int 1) ∧ Fr n0 L
theorem own_pnL : plainName "com/example/herring/herring/sim/FlowCapacitySetCarsPerSecondPinLaw" = true := by first | (simp [plainName, overriddenIn]; done) | decide +kernel
theorem own_ef0 (m : MethodId) (x0 x1 x2 x3 : Int32) : entryFrame m #[(.int x0), (.int x1), (.int x2), (.int x3)] maxLocals = mkF m 0 #[.val (.int x0), .val (.int x1), .val (.int x2), .val (.int x3), .unset, .unset, .unset, .unset, .unset, .unset, .unset, .unset, .unset, .unset, .unset, .unset, .unset, .unset, .unset, .unset] [] := by first | (simp [entryFrame, mkF, argsToLocals, Value.category, maxLocals]; done) | rfl
set_option maxRecDepth 65536 in
set_option maxHeartbeats 4000000 in
theorem own_rm0 (l : Launch) (Z : State) (a0 : Array Value) (hw : ∀ d ∈ tables_1, d.before a0 Z = true) (ws : List Jvm.Cond) (v0 v1 v2 v3 : Int32) (h0 : Heap) (n0 : Nat) (Z0 : n0 ≤ h0.size) (O : Old Z n0 h0) (S0 : Sta Z Z.heap "java/lang/StrictMath" "$assertionsDisabled" "Z" (.int 1)) :
    MetFree l x (head1 (Jvm.Cond.code x code maxLocals ret :: ws) room_1) (fun av U => av = #[(.int v0), (.int v1), (.int v2), (.int v3)] ∧ Z.Warmed39 U.vm ∧ U.heap = h0) (fun _ _ _ _ _ => True) (fun _ U o U' => ∃ v L, o = .returned v ∧ own_Q0 n0 v U'.heap L ∧ FrameEnd U o U' L 1 4) := by
  refine MetFree.of_bodySF (plainFor_of_name own_pnL) hisR ?_
  intro p e s m args below meth c s₁ Bd hml0 hP hK
  obtain ⟨rfl, hZ, hh⟩ := hP
  have hx := Bd.exec
  have hby := Bd.bytes
  have hml : c.maxLocals = 20 := hml0
  have hown : s.vm.findClass "com/example/herring/herring/sim/FlowCapacitySetCarsPerSecondPinLaw" = some m.cls := findClass_of_methodNamed Bd.named
  have X0 : Stand p l e room_1 s m #[(.int v0), (.int v1), (.int v2), (.int v3)] below meth c s₁ [] 0 0 := Stand.of_body Bd
  have e0 : s₁.heap = h0 := by rw [← hh, Bd.state]; rfl
  have N0 := Fr.nil n0
  obtain ⟨tn, ht1, ht2⟩ := own_m30 v0
  obtain ⟨a1, ha1, ea1⟩ := own_m3 v1
  obtain ⟨a2, ha2, ea2⟩ := own_m3 (XT.ushr v1 3)
  obtain ⟨kk, hk1, ek1⟩ := own_m2 v3
  obtain ⟨gn, hg1, eg1⟩ := own_m2 (XT.ushr v3 2)
  obtain ⟨b1, hb1, hb1', eb1⟩ := own_m2p v2
  obtain ⟨b2, hb2, hb2', eb2⟩ := own_m2p (XT.ushr v2 2)
  obtain ⟨b3, hb3, hb3', eb3⟩ := own_m2p (XT.ushr v2 4)
  have pre0 : ∀ t, Steps p.tables e below (s₁.setTop (mkF m 0 #[.val (.int v0), .val (.int v1), .val (.int v2), .val (.int v3), .unset, .unset, .unset, .unset, .unset, .unset, .unset, .unset, .unset, .unset, .unset, .unset, .unset, .unset, .unset, .unset] [])) t → Steps p.tables e below (s₁.setTop (entryFrame m #[(.int v0), (.int v1), (.int v2), (.int v3)] maxLocals)) t := fun t k => castTop (own_ef0 m v0 v1 v2 v3) k
  have mid : ∃ T' L' Ls', Stand p l e room_1 s m #[(.int v0), (.int v1), (.int v2), (.int v3)] below meth c T' L' 1 4 ∧ Fr n0 L' ∧ ∀ target, Steps p.tables e below (T'.setTop (mkF m 321 Ls' [(.int 1)])) target → Steps p.tables e below (s₁.setTop (mkF m 0 #[.val (.int v0), .val (.int v1), .val (.int v2), .val (.int v3), .unset, .unset, .unset, .unset, .unset, .unset, .unset, .unset, .unset, .unset, .unset, .unset, .unset, .unset, .unset, .unset] [])) target := by
    have e7 : ∀ z : Fin 8, Int32.ofNat z.val = 7 ↔ z.val = 7 := by decide +kernel
    by_cases h7 : v1 &&& 7 = 7
    · obtain ⟨T', L', Ls', X', N', st'⟩ := own_mid (v0 := v0) (v1 := v1) (v2 := v2) (v3 := v3) (tn := tn) (a1 := a1) (a2 := a2) (kn := 0) (gn := gn) (b1 := b1) (b2 := b2) (b3 := b3) X0 hx hZ hw hby hml hown e0 N0 Z0 O S0 ht1 ha1 ha2 (by omega) (fun _ => rfl) hg1 ⟨hb1, hb1'⟩ ⟨hb2, hb2'⟩ ⟨hb3, hb3'⟩
      refine ⟨T', L', Ls', X', N', fun target k' => own_s0a X0 hx hZ hw hby hown h7 ?_⟩
      rw [ht2, ea1, ea2, eg1, eb1, eb2, eb3]
      exact st' _ k'
    · obtain ⟨T', L', Ls', X', N', st'⟩ := own_mid (v0 := v0) (v1 := v1) (v2 := v2) (v3 := v3) (tn := tn) (a1 := a1) (a2 := a2) (kn := kk) (gn := gn) (b1 := b1) (b2 := b2) (b3 := b3) X0 hx hZ hw hby hml hown e0 N0 Z0 O S0 ht1 ha1 ha2 (by omega) (fun q => absurd (ea1.trans ((e7 ⟨a1, ha1⟩).mpr q)) h7) hg1 ⟨hb1, hb1'⟩ ⟨hb2, hb2'⟩ ⟨hb3, hb3'⟩
      refine ⟨T', L', Ls', X', N', fun target k' => own_s0b X0 hx hZ hw hby hown h7 ?_⟩
      rw [ht2, ea1, ea2, ek1, eg1, eb1, eb2, eb3]
      exact st' _ k'
  obtain ⟨T', L', Ls', X', N', st'⟩ := mid
  obtain ⟨fs, hr, hrun, hended, hW, hsame⟩ := X'.leave (v := some (.int 1)) (fun h => by rw [Bd.returns] at h; cases h)
  refine ⟨_, _, pre0 _ (st' _ ?_), hrun, hended, _, _, rfl, ?_, ⟨_, rfl⟩, hW, hsame.mono (by decide) (by decide)⟩
  · exact retOut X' hx Bd.returns rfl (Or.inl ⟨rfl, Or.inr (Or.inl rfl), _, rfl⟩) (hb hby at_321) hr
  · exact ⟨rfl, N'⟩
end OwnMain
section OwnComes
set_option maxRecDepth 65536 in
set_option maxHeartbeats 40000000 in
theorem own_comes {Post : Tables → Env → Array Value → State → Outcome → State → Prop} (hpost : ∀ tb e args s v u, (limb_1_1.after args s (.returned v) u = true ∧ limb_1_2.after args s (.returned v) u = true ∧ True) → FrameEnd s (.returned v) u (Jvm.fieldLocs frame_1_writes args s ++ Jvm.arrayLocs frame_1_arrays args s ++ Jvm.staticLocs frame_1_statics s) 16 128 → Post tb e args s (.returned v) u) :
    ArmFor flags0 classFile x code maxLocals ret World_1 tables_1 room_1 Calls_1 rest_1 Pre_1 Post := by
  intro l hfl _ _ p e ha hc hk s m args below hf hA hF happ hP
  obtain ⟨hcalls, hrest, hpre⟩ := hP
  obtain ⟨-, -, -, hnamed, -, -, -, hat⟩ := (Spec.applies_iff hf).mp happ
  obtain ⟨hg, hn⟩ := and_e (Cond.before_iff.mp (show (Jvm.Cond.and given_1 narrow_1).before args s = true from hpre))
  obtain ⟨h1, h2⟩ := and_e hg
  obtain ⟨h3, h4⟩ := and_e h2
  obtain ⟨h5, h6⟩ := and_e h4
  obtain ⟨h7, h8⟩ := and_e h6
  obtain ⟨w0, w1, w2, w3, rfl⟩ : ∃ w0 w1 w2 w3 : Value, args = #[w0, w1, w2, w3] := by
    have hs : args.size = 4 := by simpa [Cond.value, given_1] using h1
    obtain ⟨L⟩ := args
    match L, hs with
    | [w0, w1, w2, w3], _ => exact ⟨w0, w1, w2, w3, rfl⟩
  have hw := fun d (hd : d ∈ tables_1) => atoms_spec (ws := Jvm.Cond.code x code maxLocals ret :: tables_1) hat d (List.mem_cons_of_mem _ hd)
  obtain ⟨hsets, hown0⟩ := atoms_of _ (rest_1_c_eq ▸ (show rest_1_c.before _ s = true from hrest))
  obtain ⟨i0, e0⟩ := is_v h3
  obtain rfl : w0 = (.int i0) := Option.some.inj e0
  obtain ⟨i1, e1⟩ := is_v h5
  obtain rfl : w1 = (.int i1) := Option.some.inj e1
  obtain ⟨i2, e2⟩ := is_v h7
  obtain rfl : w2 = (.int i2) := Option.some.inj e2
  obtain ⟨i3, e3⟩ := is_v h8
  obtain rfl : w3 = (.int i3) := Option.some.inj e3
  have q0 := Cond.before_iff.mp (hsets _ (List.mem_of_getElem? (i := 2) rfl))
  obtain ⟨vx, vy, ex, ey, -, kn⟩ := cmp_v (Or.inl q0)
  obtain rfl : vy = .int 1 := (Option.some.inj ((Term.int_eval (1)).symm.trans ey)).symm
  obtain ⟨z, rfl⟩ := kn
  have hz : z = 1 := gotT (Cond.eq_ints ex (Term.int_eval (1))) q0
  subst hz
  have S0 : Sta s s.heap "java/lang/StrictMath" "$assertionsDisabled" "Z" (.int 1) := Sta.start ex (Or.inl (hsets _ (List.mem_of_getElem? (i := 1) rfl)))
  obtain ⟨n, o, h1, h2, h3, _, L, rfl, ⟨rfl, N⟩, hq⟩ := own_rm0 l s _ hw tables_1 i0 i1 i2 i3 s.heap s.heap.size (Nat.le_refl _) (Old.start s) S0 p e ha hc hk s m _ below hf ((Spec.applies_iff_loose hf).mp happ).1 ⟨rfl, State.Warmed39.refl s, rfl⟩ trivial
  refine ⟨n, _, h1, h2, h3, hpost _ _ _ _ _ _ ⟨Cond.after_iff.mpr rfl, Cond.after_iff.mpr (eq_i res_at (Term.int_eval (1)) rfl), trivial⟩ ⟨hq.1, hq.2.1, (hq.2.2.sift fun y hy => Or.inr (N y hy)).mono (by decide) (by decide)⟩⟩
end OwnComes
theorem main_1_1 : Claimed_1_1 := own_comes fun _ _ _ _ _ _ h hF => ⟨h.1, hF⟩
theorem main_1_2 : Claimed_1_2 := own_comes fun _ _ _ _ _ _ h hF => ⟨h.2.1, hF⟩
end Jvm.Pilot.@@N@@
namespace Jvm.Pilot.@@N@@
open Jvm Jvm.ClassFile Sem Op Lib Jvm.Free Jvm.Stand Jvm.Pilot.@@N@@.Jvm.D
/-! MADE BY PROGRAM (witnessworld.py) out of the Statement's table words and the real class files: 17 classes; the members and pool entries that the words name. The judged class is class 1, her method 3. -/
namespace start1
open Jvm.ClassFile
def u (s : String) : CpInfo := .utf8 (stringToUtf16 s)
/-- a pool by its gaps: so many unusable entries, then the entry; so many at the end -/
def gap : Nat → List CpInfo → List CpInfo
  | 0, r => r
  | n + 1, r => .unusable :: gap n r
def poolList (es : List (Nat × CpInfo)) (last : Nat) : List CpInfo := es.foldr (fun e r => gap e.1 (e.2 :: r)) (gap last [])
def pool (es : List (Nat × CpInfo)) (last : Nat) : Array CpInfo := ⟨poolList es last⟩
def fileOf (pool : Array CpInfo) (this : Nat) (attrs : Array Attribute := #[]) (ms : Array MethodInfo := #[]) (fl : Nat := 33) (sup : Nat := 0) (ifs : Array Nat := #[]) (fds : Array FieldInfo := #[]) : ClassFile where
  minorVersion := 0
  majorVersion := 65
  constantPool := pool
  accessFlags := fl
  thisClass := this
  superClass := sup
  interfaces := ifs
  fields := fds
  methods := ms
  attributes := attrs
def plain (name : String) (sup : Option ClassId) : Class where
  name := name
  kind := .ordinary
  loader := none
  accessFlags := 33
  super := sup
  interfaces := #[]
  cf := none
  fields := #[]
  methods := #[]
  instanceTypes := #[]
  staticTypes := #[]
  resolved := #[]
  callSites := []
  init := .initialized
  statics := none
  mirror := none

def pool0 : Array CpInfo := pool [(5, u "<init>"), (0, u "()V"), (1, .class_ 10), (1, u "java/lang/Object")] 113

def k0c0 : Code := { maxStack := 0, maxLocals := 1, code := object_method_1_code, exceptionTable := #[], attributes := #[] }
def k0m0 : Method := { name := "<init>", desc := "()V", sig := { parameters := [], returnType := none }, accessFlags := 1, code := some k0c0 }
/-- java/lang/Object -/
def k0 : Class := { plain "java/lang/Object" none with
  accessFlags := 33
  interfaces := #[]
  cf := some (fileOf pool0 8 #[] #[{ accessFlags := 1, nameIndex := 5, descriptorIndex := 6, attributes := #[] }] 33 0 #[] #[])
  fields := #[]
  methods := #[k0m0]
  instanceTypes := #[]
  staticTypes := #[]
  resolved := Array.replicate 124 none
  statics := none }

def pool1 : Array CpInfo := pool [(2, .class_ 4), (0, .nameAndType 5 6), (0, u "java/lang/Object"), (0, u "<init>"), (0, u "()V"), (0, .double 4598175219545276416), (1, .integer 1073741823), (0, .class_ 11), (0, u "com/example/herring/herring/sim/FlowCapacity"), (0, .methodref 10 3), (0, .methodref 14 15), (0, .class_ 16), (0, .nameAndType 17 18), (0, u "com/example/herring/herring/sim/FlowCapacitySetCarsPerSecondPinLaw"), (0, u "rate"), (0, u "(I)D"), (0, .methodref 10 20), (0, .nameAndType 21 22), (0, u "setCarsPerSecond"), (0, u "(D)V"), (0, .methodref 10 24), (0, .nameAndType 25 26), (0, u "count"), (0, u "(ID)V"), (0, .methodref 10 28), (0, .nameAndType 29 30), (0, u "nextSecond"), (0, u "()J"), (0, .methodref 14 32), (0, .nameAndType 33 34), (0, u "piece"), (0, u "(II)J"), (0, .long 9223372036854775807), (4, u "law"), (0, u "(IIII)Z")] 2

def k1m0 : Method := { name := "<init>", desc := "()V", sig := { parameters := [], returnType := none }, accessFlags := 2, code := none }
def k1c1 : Code := { maxStack := 4, maxLocals := 1, code := method_2_code, exceptionTable := #[], attributes := #[] }
def k1m1 : Method := { name := "rate", desc := "(I)D", sig := { parameters := [.int], returnType := some .double }, accessFlags := 10, code := some k1c1 }
def k1c2 : Code := { maxStack := 4, maxLocals := 2, code := method_3_code, exceptionTable := #[], attributes := #[] }
def k1m2 : Method := { name := "piece", desc := "(II)J", sig := { parameters := [.int, .int], returnType := some .long }, accessFlags := 10, code := some k1c2 }
def k1c3 : Code := { maxStack := 6, maxLocals := 20, code := code, exceptionTable := #[], attributes := #[] }
def k1m3 : Method := { name := "law", desc := "(IIII)Z", sig := { parameters := [.int, .int, .int, .int], returnType := some .boolean }, accessFlags := 9, code := some k1c3 }
/-- com/example/herring/herring/sim/FlowCapacitySetCarsPerSecondPinLaw -/
def k1 : Class := { plain "com/example/herring/herring/sim/FlowCapacitySetCarsPerSecondPinLaw" (some 0) with
  accessFlags := 49
  interfaces := #[]
  cf := some (fileOf pool1 14 #[] #[{ accessFlags := 2, nameIndex := 5, descriptorIndex := 6, attributes := #[] }, { accessFlags := 10, nameIndex := 17, descriptorIndex := 18, attributes := #[] }, { accessFlags := 10, nameIndex := 33, descriptorIndex := 34, attributes := #[] }, { accessFlags := 9, nameIndex := 40, descriptorIndex := 41, attributes := #[] }] 49 2 #[] #[])
  fields := #[]
  methods := #[k1m0, k1m1, k1m2, k1m3]
  instanceTypes := #[]
  staticTypes := #[]
  resolved := Array.replicate 44 none
  statics := none }

def pool2 : Array CpInfo := pool [(1, .methodref 2 3), (0, .class_ 4), (0, .nameAndType 5 6), (0, u "java/lang/Object"), (0, u "<init>"), (0, u "()V"), (0, .fieldref 8 9), (0, .class_ 10), (0, .nameAndType 11 12), (0, u "com/example/herring/herring/sim/FlowCapacity"), (0, u "turnsInStretch"), (0, u "D"), (0, .fieldref 8 14), (0, .nameAndType 15 12), (0, u "lastShare"), (0, .methodref 8 17), (0, .nameAndType 18 19), (0, u "turn"), (0, u "(D)D"), (0, .fieldref 8 21), (0, .nameAndType 22 12), (0, u "stretchStart"), (0, .fieldref 8 24), (0, .nameAndType 25 12), (0, u "carsPerSecond"), (0, .methodref 8 27), (0, .nameAndType 28 29), (0, u "nextSecond"), (0, u "()J"), (0, .methodref 31 32), (0, .class_ 33), (0, .nameAndType 34 35), (0, u "com/example/herring/herring/sim/Rounding"), (0, u "down"), (0, u "(D)I"), (2, .long 9223372036854775807), (3, u "setCarsPerSecond"), (0, u "(D)V"), (3, u "count"), (0, u "(ID)V")] 2

def k2c0 : Code := { maxStack := 1, maxLocals := 1, code := prog_60_method_1_code, exceptionTable := #[], attributes := #[] }
def k2m0 : Method := { name := "<init>", desc := "()V", sig := { parameters := [], returnType := none }, accessFlags := 0, code := some k2c0 }
def k2c1 : Code := { maxStack := 6, maxLocals := 3, code := prog_60_method_2_code, exceptionTable := #[], attributes := #[] }
def k2m1 : Method := { name := "setCarsPerSecond", desc := "(D)V", sig := { parameters := [.double], returnType := none }, accessFlags := 0, code := some k2c1 }
def k2c2 : Code := { maxStack := 5, maxLocals := 4, code := prog_60_method_4_code, exceptionTable := #[], attributes := #[] }
def k2m2 : Method := { name := "count", desc := "(ID)V", sig := { parameters := [.int, .double], returnType := none }, accessFlags := 0, code := some k2c2 }
def k2c3 : Code := { maxStack := 4, maxLocals := 1, code := prog_60_method_5_code, exceptionTable := #[], attributes := #[] }
def k2m3 : Method := { name := "nextSecond", desc := "()J", sig := { parameters := [], returnType := some .long }, accessFlags := 0, code := some k2c3 }
def k2c4 : Code := { maxStack := 6, maxLocals := 3, code := prog_60_method_6_code, exceptionTable := #[], attributes := #[] }
def k2m4 : Method := { name := "turn", desc := "(D)D", sig := { parameters := [.double], returnType := some .double }, accessFlags := 2, code := some k2c4 }
/-- com/example/herring/herring/sim/FlowCapacity -/
def k2 : Class := { plain "com/example/herring/herring/sim/FlowCapacity" (some 0) with
  accessFlags := 48
  interfaces := #[]
  cf := some (fileOf pool2 8 #[] #[{ accessFlags := 0, nameIndex := 5, descriptorIndex := 6, attributes := #[] }, { accessFlags := 0, nameIndex := 42, descriptorIndex := 43, attributes := #[] }, { accessFlags := 0, nameIndex := 47, descriptorIndex := 48, attributes := #[] }, { accessFlags := 0, nameIndex := 28, descriptorIndex := 29, attributes := #[] }, { accessFlags := 2, nameIndex := 18, descriptorIndex := 19, attributes := #[] }] 48 2 #[] #[{ accessFlags := 2, nameIndex := 25, descriptorIndex := 12, attributes := #[] }, { accessFlags := 2, nameIndex := 22, descriptorIndex := 12, attributes := #[] }, { accessFlags := 2, nameIndex := 11, descriptorIndex := 12, attributes := #[] }, { accessFlags := 2, nameIndex := 15, descriptorIndex := 12, attributes := #[] }])
  fields := #[{ name := "carsPerSecond", type := .double, accessFlags := 2, slot := 0, constantValue := 0 }, { name := "stretchStart", type := .double, accessFlags := 2, slot := 1, constantValue := 0 }, { name := "turnsInStretch", type := .double, accessFlags := 2, slot := 2, constantValue := 0 }, { name := "lastShare", type := .double, accessFlags := 2, slot := 3, constantValue := 0 }]
  methods := #[k2m0, k2m1, k2m2, k2m3, k2m4]
  instanceTypes := #[.double, .double, .double, .double]
  staticTypes := #[]
  resolved := Array.replicate 51 none
  statics := none }

def pool3 : Array CpInfo := pool [(2, .class_ 4), (1, u "java/lang/Object"), (0, u "<init>"), (0, u "()V"), (0, .class_ 8), (0, u "com/example/herring/herring/sim/Rounding"), (0, .double 4472406533629990549), (2, .class_ 14), (1, u "java/lang/Math"), (1, u "(D)D"), (0, .methodref 7 18), (0, .nameAndType 19 20), (0, u "clamp"), (0, u "(D)I"), (0, .methodref 12 22), (0, .nameAndType 23 16), (0, u "floor"), (2, .double 4746794007244308480), (1, .methodref 12 29), (0, .nameAndType 30 31), (0, u "max"), (0, u "(DD)D"), (0, .methodref 12 33), (0, .nameAndType 34 31), (0, u "min"), (0, u "TOLERANCE"), (0, u "D"), (4, u "down")] 2

def k3m0 : Method := { name := "<init>", desc := "()V", sig := { parameters := [], returnType := none }, accessFlags := 2, code := none }
def k3c1 : Code := { maxStack := 4, maxLocals := 2, code := prog_66_method_3_code, exceptionTable := #[], attributes := #[] }
def k3m1 : Method := { name := "down", desc := "(D)I", sig := { parameters := [.double], returnType := some .int }, accessFlags := 8, code := some k3c1 }
def k3c2 : Code := { maxStack := 6, maxLocals := 2, code := prog_66_method_4_code, exceptionTable := #[], attributes := #[] }
def k3m2 : Method := { name := "clamp", desc := "(D)I", sig := { parameters := [.double], returnType := some .int }, accessFlags := 10, code := some k3c2 }
/-- com/example/herring/herring/sim/Rounding -/
def k3 : Class := { plain "com/example/herring/herring/sim/Rounding" (some 0) with
  accessFlags := 48
  interfaces := #[]
  cf := some (fileOf pool3 7 #[] #[{ accessFlags := 2, nameIndex := 5, descriptorIndex := 6, attributes := #[] }, { accessFlags := 8, nameIndex := 41, descriptorIndex := 20, attributes := #[] }, { accessFlags := 10, nameIndex := 19, descriptorIndex := 20, attributes := #[] }] 48 2 #[] #[{ accessFlags := 26, nameIndex := 35, descriptorIndex := 36, attributes := #[] }])
  fields := #[{ name := "TOLERANCE", type := .double, accessFlags := 26, slot := 0, constantValue := 0 }]
  methods := #[k3m0, k3m1, k3m2]
  instanceTypes := #[]
  staticTypes := #[.double]
  resolved := Array.replicate 44 none
  statics := none }

def pool4 : Array CpInfo := pool [(1, .class_ 2), (0, u "java/lang/Math"), (1, .class_ 6), (1, u "java/lang/Object"), (0, u "<init>"), (0, u "()V"), (1, .class_ 12), (1, u "java/lang/StrictMath"), (1, u "(D)D"), (37, u "(DD)D"), (3, .methodref 10 57), (0, .nameAndType 58 14), (0, u "floor"), (20, .methodref 80 81), (0, .class_ 82), (0, .nameAndType 83 84), (0, u "java/lang/Double"), (0, u "doubleToRawLongBits"), (0, u "(D)J"), (2, .long 9218868437227405312), (10, .class_ 100), (1, u "java/lang/Math$RandomNumberGeneratorHolder"), (71, u "negativeZeroFloatBits"), (0, u "J"), (2, u "negativeZeroDoubleBits"), (21, u "max"), (2, u "min"), (43, u "$assertionsDisabled"), (0, u "Z"), (33, u "getExponent"), (0, u "(D)I"), (40, .long 1023), (15, u "twoToTheDoubleScaleDown"), (0, u "D"), (4, u "twoToTheDoubleScaleUp"), (9, u "E"), (3, u "PI"), (2, u "TAU"), (2, u "DEGREES_TO_RADIANS"), (0, u "RADIANS_TO_DEGREES")] 94

def k4m0 : Method := { name := "<init>", desc := "()V", sig := { parameters := [], returnType := none }, accessFlags := 2, code := none }
def k4c1 : Code := { maxStack := 2, maxLocals := 2, code := jdk_29_method_17_code, exceptionTable := #[], attributes := #[] }
def k4m1 : Method := { name := "floor", desc := "(D)D", sig := { parameters := [.double], returnType := some .double }, accessFlags := 9, code := some k4c1 }
def k4c2 : Code := { maxStack := 4, maxLocals := 4, code := jdk_29_method_68_code, exceptionTable := #[], attributes := #[] }
def k4m2 : Method := { name := "max", desc := "(DD)D", sig := { parameters := [.double, .double], returnType := some .double }, accessFlags := 9, code := some k4c2 }
def k4c3 : Code := { maxStack := 4, maxLocals := 4, code := jdk_29_method_72_code, exceptionTable := #[], attributes := #[] }
def k4m3 : Method := { name := "min", desc := "(DD)D", sig := { parameters := [.double, .double], returnType := some .double }, accessFlags := 9, code := some k4c3 }
def k4c4 : Code := { maxStack := 4, maxLocals := 2, code := jdk_29_method_92_code, exceptionTable := #[], attributes := #[] }
def k4m4 : Method := { name := "getExponent", desc := "(D)I", sig := { parameters := [.double], returnType := some .int }, accessFlags := 9, code := some k4c4 }
/-- java/lang/Math -/
def k4 : Class := { plain "java/lang/Math" (some 0) with
  accessFlags := 49
  interfaces := #[]
  cf := some (fileOf pool4 1 #[.nestMembers #[98]] #[{ accessFlags := 2, nameIndex := 7, descriptorIndex := 8, attributes := #[] }, { accessFlags := 9, nameIndex := 58, descriptorIndex := 14, attributes := #[] }, { accessFlags := 9, nameIndex := 198, descriptorIndex := 52, attributes := #[] }, { accessFlags := 9, nameIndex := 201, descriptorIndex := 52, attributes := #[] }, { accessFlags := 9, nameIndex := 280, descriptorIndex := 281, attributes := #[] }] 49 4 #[] #[{ accessFlags := 25, nameIndex := 354, descriptorIndex := 339, attributes := #[] }, { accessFlags := 25, nameIndex := 358, descriptorIndex := 339, attributes := #[] }, { accessFlags := 25, nameIndex := 361, descriptorIndex := 339, attributes := #[] }, { accessFlags := 26, nameIndex := 364, descriptorIndex := 339, attributes := #[] }, { accessFlags := 26, nameIndex := 365, descriptorIndex := 339, attributes := #[] }, { accessFlags := 26, nameIndex := 172, descriptorIndex := 173, attributes := #[] }, { accessFlags := 26, nameIndex := 176, descriptorIndex := 173, attributes := #[] }, { accessFlags := 8, nameIndex := 344, descriptorIndex := 339, attributes := #[] }, { accessFlags := 8, nameIndex := 338, descriptorIndex := 339, attributes := #[] }, { accessFlags := 4120, nameIndex := 245, descriptorIndex := 246, attributes := #[] }])
  fields := #[{ name := "E", type := .double, accessFlags := 25, slot := 0, constantValue := 0 }, { name := "PI", type := .double, accessFlags := 25, slot := 1, constantValue := 0 }, { name := "TAU", type := .double, accessFlags := 25, slot := 2, constantValue := 0 }, { name := "DEGREES_TO_RADIANS", type := .double, accessFlags := 26, slot := 3, constantValue := 0 }, { name := "RADIANS_TO_DEGREES", type := .double, accessFlags := 26, slot := 4, constantValue := 0 }, { name := "negativeZeroFloatBits", type := .long, accessFlags := 26, slot := 5, constantValue := 0 }, { name := "negativeZeroDoubleBits", type := .long, accessFlags := 26, slot := 6, constantValue := 0 }, { name := "twoToTheDoubleScaleUp", type := .double, accessFlags := 8, slot := 7, constantValue := 0 }, { name := "twoToTheDoubleScaleDown", type := .double, accessFlags := 8, slot := 8, constantValue := 0 }, { name := "$assertionsDisabled", type := .boolean, accessFlags := 4120, slot := 9, constantValue := 0 }]
  methods := #[k4m0, k4m1, k4m2, k4m3, k4m4]
  instanceTypes := #[]
  staticTypes := #[.double, .double, .double, .double, .double, .long, .long, .double, .double, .boolean]
  resolved := Array.replicate 460 none
  statics := none }

def pool5 : Array CpInfo := pool [(1, .class_ 2), (0, u "java/lang/StrictMath"), (1, .class_ 6), (1, u "java/lang/Object"), (0, u "<init>"), (0, u "()V"), (5, u "(D)D"), (16, .class_ 33), (1, u "java/lang/Math"), (26, .methodref 1 61), (0, .nameAndType 62 63), (0, u "floorOrCeil"), (0, u "(DDDD)D"), (0, .double 13830554455654793216), (1, .methodref 31 67), (0, .nameAndType 68 69), (0, u "getExponent"), (0, u "(D)I"), (0, .fieldref 1 71), (0, .nameAndType 72 73), (0, u "$assertionsDisabled"), (0, u "Z"), (3, .methodref 78 79), (0, .class_ 80), (0, .nameAndType 81 82), (0, u "java/lang/Double"), (0, u "doubleToRawLongBits"), (0, u "(D)J"), (2, .long 4503599627370495), (1, .long 18446744073709551615), (1, .methodref 78 90), (0, .nameAndType 91 92), (0, u "longBitsToDouble"), (0, u "(J)D"), (21, .class_ 116), (1, u "java/lang/StrictMath$RandomNumberGeneratorHolder"), (222, u "E"), (0, u "D"), (3, u "PI"), (2, u "TAU"), (27, u "floor")] 60

def k5m0 : Method := { name := "<init>", desc := "()V", sig := { parameters := [], returnType := none }, accessFlags := 2, code := none }
def k5c1 : Code := { maxStack := 8, maxLocals := 2, code := jdk_128_method_17_code, exceptionTable := #[], attributes := #[] }
def k5m1 : Method := { name := "floor", desc := "(D)D", sig := { parameters := [.double], returnType := some .double }, accessFlags := 9, code := some k5c1 }
def k5c2 : Code := { maxStack := 6, maxLocals := 15, code := jdk_128_method_18_code, exceptionTable := #[], attributes := #[] }
def k5m2 : Method := { name := "floorOrCeil", desc := "(DDDD)D", sig := { parameters := [.double, .double, .double, .double], returnType := some .double }, accessFlags := 10, code := some k5c2 }
/-- java/lang/StrictMath -/
def k5 : Class := { plain "java/lang/StrictMath" (some 0) with
  accessFlags := 49
  interfaces := #[]
  cf := some (fileOf pool5 1 #[.nestMembers #[114]] #[{ accessFlags := 2, nameIndex := 7, descriptorIndex := 8, attributes := #[] }, { accessFlags := 9, nameIndex := 375, descriptorIndex := 14, attributes := #[] }, { accessFlags := 10, nameIndex := 62, descriptorIndex := 63, attributes := #[] }] 49 4 #[] #[{ accessFlags := 25, nameIndex := 339, descriptorIndex := 340, attributes := #[] }, { accessFlags := 25, nameIndex := 344, descriptorIndex := 340, attributes := #[] }, { accessFlags := 25, nameIndex := 347, descriptorIndex := 340, attributes := #[] }, { accessFlags := 4120, nameIndex := 72, descriptorIndex := 73, attributes := #[] }])
  fields := #[{ name := "E", type := .double, accessFlags := 25, slot := 0, constantValue := 0 }, { name := "PI", type := .double, accessFlags := 25, slot := 1, constantValue := 0 }, { name := "TAU", type := .double, accessFlags := 25, slot := 2, constantValue := 0 }, { name := "$assertionsDisabled", type := .boolean, accessFlags := 4120, slot := 3, constantValue := 0 }]
  methods := #[k5m0, k5m1, k5m2]
  instanceTypes := #[]
  staticTypes := #[.double, .double, .double, .boolean]
  resolved := Array.replicate 436 none
  statics := some 0 }

def pool6 : Array CpInfo := pool [(1, .class_ 2), (0, u "java/io/Serializable"), (0, .class_ 4), (0, u "java/lang/Object")] 2

/-- java/io/Serializable -/
def k6 : Class := { plain "java/io/Serializable" (some 0) with
  accessFlags := 1537
  interfaces := #[]
  cf := some (fileOf pool6 1 #[] #[] 1537 3 #[] #[])
  fields := #[]
  methods := #[]
  instanceTypes := #[]
  staticTypes := #[]
  resolved := Array.replicate 7 none
  statics := none }

def pool7 : Array CpInfo := pool [(2, .class_ 4), (1, u "java/lang/Object"), (0, u "<init>"), (0, u "()V"), (1, .class_ 10), (1, u "java/lang/Number"), (2, .class_ 14), (0, u "java/io/Serializable"), (0, u "serialVersionUID"), (0, u "J")] 20

def k7m0 : Method := { name := "<init>", desc := "()V", sig := { parameters := [], returnType := none }, accessFlags := 1, code := none }
/-- java/lang/Number -/
def k7 : Class := { plain "java/lang/Number" (some 0) with
  accessFlags := 1057
  interfaces := #[6]
  cf := some (fileOf pool7 8 #[] #[{ accessFlags := 1, nameIndex := 5, descriptorIndex := 6, attributes := #[] }] 1057 2 #[13] #[{ accessFlags := 26, nameIndex := 15, descriptorIndex := 16, attributes := #[] }])
  fields := #[{ name := "serialVersionUID", type := .long, accessFlags := 26, slot := 0, constantValue := 0 }]
  methods := #[k7m0]
  instanceTypes := #[]
  staticTypes := #[.long]
  resolved := Array.replicate 37 none
  statics := none }

def pool8 : Array CpInfo := pool [(1, .class_ 2), (0, u "java/lang/Comparable"), (0, .class_ 4), (0, u "java/lang/Object")] 7

/-- java/lang/Comparable -/
def k8 : Class := { plain "java/lang/Comparable" (some 0) with
  accessFlags := 1537
  interfaces := #[]
  cf := some (fileOf pool8 1 #[] #[] 1537 3 #[] #[])
  fields := #[]
  methods := #[]
  instanceTypes := #[]
  staticTypes := #[]
  resolved := Array.replicate 12 none
  statics := none }

def pool9 : Array CpInfo := pool [(1, .class_ 2), (0, u "java/lang/constant/Constable"), (0, .class_ 4), (0, u "java/lang/Object")] 6

/-- java/lang/constant/Constable -/
def k9 : Class := { plain "java/lang/constant/Constable" (some 0) with
  accessFlags := 1537
  interfaces := #[]
  cf := some (fileOf pool9 1 #[] #[] 1537 3 #[] #[])
  fields := #[]
  methods := #[]
  instanceTypes := #[]
  staticTypes := #[]
  resolved := Array.replicate 11 none
  statics := none }

def pool10 : Array CpInfo := pool [(1, .class_ 2), (0, u "java/lang/constant/ConstantDesc"), (0, .class_ 4), (0, u "java/lang/Object")] 32

/-- java/lang/constant/ConstantDesc -/
def k10 : Class := { plain "java/lang/constant/ConstantDesc" (some 0) with
  accessFlags := 1537
  interfaces := #[]
  cf := some (fileOf pool10 1 #[] #[] 1537 3 #[] #[])
  fields := #[]
  methods := #[]
  instanceTypes := #[]
  staticTypes := #[]
  resolved := Array.replicate 37 none
  statics := none }

def pool11 : Array CpInfo := pool [(1, .class_ 2), (0, u "java/lang/Double"), (46, u "(D)J"), (64, .class_ 116), (1, u "java/lang/Number"), (3, u "value"), (0, u "D"), (14, u "doubleToRawLongBits"), (36, u "TYPE"), (0, u "Ljava/lang/Class;"), (0, .class_ 176), (0, u "java/lang/Comparable"), (0, .class_ 178), (0, u "java/lang/constant/Constable"), (0, .class_ 180), (0, u "java/lang/constant/ConstantDesc"), (0, u "POSITIVE_INFINITY"), (3, u "NEGATIVE_INFINITY"), (2, u "NaN"), (2, u "MAX_VALUE"), (0, u "MIN_NORMAL"), (0, u "MIN_VALUE"), (2, u "SIZE"), (0, u "I"), (1, u "PRECISION"), (1, u "MAX_EXPONENT"), (1, u "MIN_EXPONENT"), (1, u "BYTES"), (3, u "serialVersionUID"), (0, u "J"), (48, u "longBitsToDouble"), (0, u "(J)D")] 29

def k11m0 : Method := { name := "doubleToRawLongBits", desc := "(D)J", sig := { parameters := [.double], returnType := some .long }, accessFlags := 265, code := none }
def k11m1 : Method := { name := "longBitsToDouble", desc := "(J)D", sig := { parameters := [.long], returnType := some .double }, accessFlags := 265, code := none }
/-- java/lang/Double -/
def k11 : Class := { plain "java/lang/Double" (some 7) with
  accessFlags := 49
  interfaces := #[8, 9, 10]
  cf := some (fileOf pool11 1 #[] #[{ accessFlags := 265, nameIndex := 136, descriptorIndex := 49, attributes := #[] }, { accessFlags := 265, nameIndex := 259, descriptorIndex := 260, attributes := #[] }] 49 114 #[175, 177, 179] #[{ accessFlags := 25, nameIndex := 181, descriptorIndex := 121, attributes := #[] }, { accessFlags := 25, nameIndex := 185, descriptorIndex := 121, attributes := #[] }, { accessFlags := 25, nameIndex := 188, descriptorIndex := 121, attributes := #[] }, { accessFlags := 25, nameIndex := 191, descriptorIndex := 121, attributes := #[] }, { accessFlags := 25, nameIndex := 192, descriptorIndex := 121, attributes := #[] }, { accessFlags := 25, nameIndex := 193, descriptorIndex := 121, attributes := #[] }, { accessFlags := 25, nameIndex := 196, descriptorIndex := 197, attributes := #[] }, { accessFlags := 25, nameIndex := 199, descriptorIndex := 197, attributes := #[] }, { accessFlags := 25, nameIndex := 201, descriptorIndex := 197, attributes := #[] }, { accessFlags := 25, nameIndex := 203, descriptorIndex := 197, attributes := #[] }, { accessFlags := 25, nameIndex := 205, descriptorIndex := 197, attributes := #[] }, { accessFlags := 25, nameIndex := 173, descriptorIndex := 174, attributes := #[] }, { accessFlags := 18, nameIndex := 120, descriptorIndex := 121, attributes := #[] }, { accessFlags := 26, nameIndex := 209, descriptorIndex := 210, attributes := #[] }])
  fields := #[{ name := "POSITIVE_INFINITY", type := .double, accessFlags := 25, slot := 0, constantValue := 0 }, { name := "NEGATIVE_INFINITY", type := .double, accessFlags := 25, slot := 1, constantValue := 0 }, { name := "NaN", type := .double, accessFlags := 25, slot := 2, constantValue := 0 }, { name := "MAX_VALUE", type := .double, accessFlags := 25, slot := 3, constantValue := 0 }, { name := "MIN_NORMAL", type := .double, accessFlags := 25, slot := 4, constantValue := 0 }, { name := "MIN_VALUE", type := .double, accessFlags := 25, slot := 5, constantValue := 0 }, { name := "SIZE", type := .int, accessFlags := 25, slot := 6, constantValue := 0 }, { name := "PRECISION", type := .int, accessFlags := 25, slot := 7, constantValue := 0 }, { name := "MAX_EXPONENT", type := .int, accessFlags := 25, slot := 8, constantValue := 0 }, { name := "MIN_EXPONENT", type := .int, accessFlags := 25, slot := 9, constantValue := 0 }, { name := "BYTES", type := .int, accessFlags := 25, slot := 10, constantValue := 0 }, { name := "TYPE", type := (.object "java/lang/Class"), accessFlags := 25, slot := 11, constantValue := 0 }, { name := "value", type := .double, accessFlags := 18, slot := 0, constantValue := 0 }, { name := "serialVersionUID", type := .long, accessFlags := 26, slot := 12, constantValue := 0 }]
  methods := #[k11m0, k11m1]
  instanceTypes := #[.double]
  staticTypes := #[.double, .double, .double, .double, .double, .double, .int, .int, .int, .int, .int, (.object "java/lang/Class"), .long]
  resolved := Array.replicate 290 none
  statics := none }

def pool12 : Array CpInfo := pool [(1, u "java/lang/Cloneable"), (0, .class_ 1), (0, u "java/lang/Object"), (0, .class_ 3)] 3

/-- java/lang/Cloneable -/
def k12 : Class := { plain "java/lang/Cloneable" (some 0) with
  accessFlags := 1537
  interfaces := #[]
  cf := some (fileOf pool12 2 #[] #[] 1537 4 #[] #[])
  fields := #[]
  methods := #[]
  instanceTypes := #[]
  staticTypes := #[]
  resolved := Array.replicate 8 none
  statics := none }

/-- the primitive byte -/
def k13 : Class := { plain "byte" none with kind := .primitive 'B', accessFlags := 0x411 }
/-- [B -/
def k14 : Class := { plain "[B" (some 0) with kind := .array 13 .byte, interfaces := #[12, 6], accessFlags := 1041 }

/-- the primitive int -/
def k15 : Class := { plain "int" none with kind := .primitive 'I', accessFlags := 0x411 }
/-- [I -/
def k16 : Class := { plain "[I" (some 0) with kind := .array 15 .int, interfaces := #[12, 6], accessFlags := 1041 }

def heap : Heap := #[{ cls := 5, slots := #[.double 0, .double 0, .double 0, .int 1], vm := .statics 5 }]
def classes : Array Class := #[k0, k1, k2, k3, k4, k5, k6, k7, k8, k9, k10, k11, k12, k13, k14, k15, k16]
def interned : List (Array UInt16 × Addr) := []
def slotsUsed : Nat := 4
def theMethod : MethodId := ⟨1, 3⟩
def args0 : Array Value := #[.int 5, .int 6, .int 7, .int 8]
def aboutOver (below : List Frame) : State where
  vm := { classes := classes, interned := interned.toArray }
  heap := heap
  slotsUsed := slotsUsed
  threads := #[{ frames := .invoking theMethod args0 :: below }]
def below0 : List Frame := [.native { method := ⟨0, 0⟩, args := #[] }]
def about1 : State := aboutOver below0
def p0 : Program := .bare "" "" ""
def e0 : Env := launch0.env 0 0 0
theorem w_frames : about1.frames = Frame.invoking theMethod args0 :: below0 := rfl
set_option maxRecDepth 65536 in
theorem w_args : argsFit about1.vm theMethod args0 = true := by decide +kernel
set_option maxRecDepth 65536 in
theorem w_heap : heapFits about1 = true := by decide +kernel
set_option maxRecDepth 65536 in
theorem w_runnable : about1.curStatus? = some .runnable := by decide +kernel
set_option maxRecDepth 65536 in
theorem w_alone : about1.alone = true := by decide +kernel
set_option maxRecDepth 65536 in
theorem w_named : about1.methodNamed? x = some theMethod := by decide +kernel
set_option maxRecDepth 65536 in
theorem w_hears : about1.hears theMethod below0 = true := by decide +kernel
set_option maxRecDepth 65536 in
theorem w_ripe : about1.ripe theMethod args0 below0 = true := by decide +kernel
theorem w_running : about1.status = .running := rfl
set_option maxRecDepth 65536 in
theorem w_room : about1.hasRoom e0.platform room_1 = true :=
  launch0.hasRoom_least _ room_1 (by decide +kernel) (by decide +kernel) (by decide +kernel) (by decide +kernel) (by decide +kernel) (by decide +kernel)
theorem allAtoms_all (ts : List Jvm.Cond) (a : Array Jvm.Value) (st : Jvm.State) : (allAtoms ts).before a st = ts.all (fun c => c.before a st) := by
  induction ts with
  | nil => rfl
  | cons c t ih =>
    show (Jvm.Cond.and c (allAtoms t)).before a st = _
    rw [Jvm.Cond.before_and, ih, List.all_cons]
def words1 : List Jvm.Cond := Jvm.Cond.code x code maxLocals ret :: tables_1
/-- a 'code' word, met by the world's own term for the bytes: nothing is compared byte by byte -/
theorem code_word {y : MethodName} {bytes : ByteArray} {mx : Nat} {rt : Option FieldType} {a : Array Value} {s : State} {m : MethodId} {meth : Method} {c : Code} (h1 : s.methodNamed? y = some m) (h2 : s.vm.method? m = some meth) (h3 : meth.code = some c) (h4 : c.code = bytes)
    (h5 : (c.maxLocals == mx && c.exceptionTable.isEmpty && decide (c.maxStack ≤ mostOperands) && decide (meth.sig.returnType = rt) && !meth.locks && decide (parseMethodDescriptor y.desc = some meth.sig)) = true) : (Jvm.Cond.code y bytes mx rt).before a s = true := by
  simp only [Bool.and_eq_true, beq_iff_eq, Bool.not_eq_true', decide_eq_true_eq] at h5
  obtain ⟨⟨⟨⟨⟨g1, g2⟩, g3⟩, g4⟩, g5⟩, g6⟩ := h5
  simp [Cond.before, Cond.holds, Cond.value, h1, h2, h3, h4, g1, g2, g3, g4, g5, g6]
def isCode : Jvm.Cond → Bool
  | .code _ _ _ _ => true
  | _ => false
theorem all_split {L : List Jvm.Cond} {P : Jvm.Cond → Bool} (h1 : L.all (fun c => isCode c || P c) = true) (h2 : ∀ c ∈ L.filter isCode, P c = true) : L.all P = true := by
  refine List.all_eq_true.mpr fun c hc => ?_
  have h := List.all_eq_true.mp h1 c hc
  rcases Bool.eq_false_or_eq_true (isCode c) with hi | hi
  · exact h2 c (List.mem_filter.mpr ⟨hc, hi⟩)
  · simpa [hi] using h
set_option maxRecDepth 65536 in
theorem w_c0 : (Jvm.Cond.code x code maxLocals ret).before args0 about1 = true := code_word (m := ⟨1, 3⟩) (meth := k1m3) (c := k1c3) (by decide +kernel) rfl rfl rfl (by decide +kernel)
set_option maxRecDepth 65536 in
theorem w_c1 : (Jvm.Cond.code ({ cls := "com/example/herring/herring/sim/FlowCapacity", name := "<init>", desc := "()V" } : Jvm.MethodName) prog_60_method_1_code (1 : Nat) (Option.none : Option Jvm.ClassFile.FieldType)).before args0 about1 = true := code_word (m := ⟨2, 0⟩) (meth := k2m0) (c := k2c0) (by decide +kernel) rfl rfl rfl (by decide +kernel)
set_option maxRecDepth 65536 in
theorem w_c2 : (Jvm.Cond.code ({ cls := "java/lang/Object", name := "<init>", desc := "()V" } : Jvm.MethodName) object_method_1_code (1 : Nat) (Option.none : Option Jvm.ClassFile.FieldType)).before args0 about1 = true := code_word (m := ⟨0, 0⟩) (meth := k0m0) (c := k0c0) (by decide +kernel) rfl rfl rfl (by decide +kernel)
set_option maxRecDepth 65536 in
theorem w_c3 : (Jvm.Cond.code ({ cls := "com/example/herring/herring/sim/FlowCapacitySetCarsPerSecondPinLaw", name := "rate", desc := "(I)D" } : Jvm.MethodName) method_2_code (1 : Nat) (Option.some Jvm.ClassFile.FieldType.double)).before args0 about1 = true := code_word (m := ⟨1, 1⟩) (meth := k1m1) (c := k1c1) (by decide +kernel) rfl rfl rfl (by decide +kernel)
set_option maxRecDepth 65536 in
theorem w_c4 : (Jvm.Cond.code ({ cls := "com/example/herring/herring/sim/FlowCapacity", name := "setCarsPerSecond", desc := "(D)V" } : Jvm.MethodName) prog_60_method_2_code (3 : Nat) (Option.none : Option Jvm.ClassFile.FieldType)).before args0 about1 = true := code_word (m := ⟨2, 1⟩) (meth := k2m1) (c := k2c1) (by decide +kernel) rfl rfl rfl (by decide +kernel)
set_option maxRecDepth 65536 in
theorem w_c5 : (Jvm.Cond.code ({ cls := "com/example/herring/herring/sim/FlowCapacity", name := "count", desc := "(ID)V" } : Jvm.MethodName) prog_60_method_4_code (4 : Nat) (Option.none : Option Jvm.ClassFile.FieldType)).before args0 about1 = true := code_word (m := ⟨2, 2⟩) (meth := k2m2) (c := k2c2) (by decide +kernel) rfl rfl rfl (by decide +kernel)
set_option maxRecDepth 65536 in
theorem w_c6 : (Jvm.Cond.code ({ cls := "com/example/herring/herring/sim/FlowCapacity", name := "nextSecond", desc := "()J" } : Jvm.MethodName) prog_60_method_5_code (1 : Nat) (Option.some Jvm.ClassFile.FieldType.long)).before args0 about1 = true := code_word (m := ⟨2, 3⟩) (meth := k2m3) (c := k2c3) (by decide +kernel) rfl rfl rfl (by decide +kernel)
set_option maxRecDepth 65536 in
theorem w_c7 : (Jvm.Cond.code ({ cls := "com/example/herring/herring/sim/FlowCapacity", name := "turn", desc := "(D)D" } : Jvm.MethodName) prog_60_method_6_code (3 : Nat) (Option.some Jvm.ClassFile.FieldType.double)).before args0 about1 = true := code_word (m := ⟨2, 4⟩) (meth := k2m4) (c := k2c4) (by decide +kernel) rfl rfl rfl (by decide +kernel)
set_option maxRecDepth 65536 in
theorem w_c8 : (Jvm.Cond.code ({ cls := "com/example/herring/herring/sim/Rounding", name := "down", desc := "(D)I" } : Jvm.MethodName) prog_66_method_3_code (2 : Nat) (Option.some Jvm.ClassFile.FieldType.int)).before args0 about1 = true := code_word (m := ⟨3, 1⟩) (meth := k3m1) (c := k3c1) (by decide +kernel) rfl rfl rfl (by decide +kernel)
set_option maxRecDepth 65536 in
theorem w_c9 : (Jvm.Cond.code ({ cls := "java/lang/Math", name := "floor", desc := "(D)D" } : Jvm.MethodName) jdk_29_method_17_code (2 : Nat) (Option.some Jvm.ClassFile.FieldType.double)).before args0 about1 = true := code_word (m := ⟨4, 1⟩) (meth := k4m1) (c := k4c1) (by decide +kernel) rfl rfl rfl (by decide +kernel)
set_option maxRecDepth 65536 in
theorem w_c10 : (Jvm.Cond.code ({ cls := "java/lang/StrictMath", name := "floor", desc := "(D)D" } : Jvm.MethodName) jdk_128_method_17_code (2 : Nat) (Option.some Jvm.ClassFile.FieldType.double)).before args0 about1 = true := code_word (m := ⟨5, 1⟩) (meth := k5m1) (c := k5c1) (by decide +kernel) rfl rfl rfl (by decide +kernel)
set_option maxRecDepth 65536 in
theorem w_c11 : (Jvm.Cond.code ({ cls := "java/lang/StrictMath", name := "floorOrCeil", desc := "(DDDD)D" } : Jvm.MethodName) jdk_128_method_18_code (15 : Nat) (Option.some Jvm.ClassFile.FieldType.double)).before args0 about1 = true := code_word (m := ⟨5, 2⟩) (meth := k5m2) (c := k5c2) (by decide +kernel) rfl rfl rfl (by decide +kernel)
set_option maxRecDepth 65536 in
theorem w_c12 : (Jvm.Cond.code ({ cls := "java/lang/Math", name := "getExponent", desc := "(D)I" } : Jvm.MethodName) jdk_29_method_92_code (2 : Nat) (Option.some Jvm.ClassFile.FieldType.int)).before args0 about1 = true := code_word (m := ⟨4, 4⟩) (meth := k4m4) (c := k4c4) (by decide +kernel) rfl rfl rfl (by decide +kernel)
set_option maxRecDepth 65536 in
theorem w_c13 : (Jvm.Cond.code ({ cls := "com/example/herring/herring/sim/Rounding", name := "clamp", desc := "(D)I" } : Jvm.MethodName) prog_66_method_4_code (2 : Nat) (Option.some Jvm.ClassFile.FieldType.int)).before args0 about1 = true := code_word (m := ⟨3, 2⟩) (meth := k3m2) (c := k3c2) (by decide +kernel) rfl rfl rfl (by decide +kernel)
set_option maxRecDepth 65536 in
theorem w_c14 : (Jvm.Cond.code ({ cls := "java/lang/Math", name := "max", desc := "(DD)D" } : Jvm.MethodName) jdk_29_method_68_code (4 : Nat) (Option.some Jvm.ClassFile.FieldType.double)).before args0 about1 = true := code_word (m := ⟨4, 2⟩) (meth := k4m2) (c := k4c2) (by decide +kernel) rfl rfl rfl (by decide +kernel)
set_option maxRecDepth 65536 in
theorem w_c15 : (Jvm.Cond.code ({ cls := "java/lang/Math", name := "min", desc := "(DD)D" } : Jvm.MethodName) jdk_29_method_72_code (4 : Nat) (Option.some Jvm.ClassFile.FieldType.double)).before args0 about1 = true := code_word (m := ⟨4, 3⟩) (meth := k4m3) (c := k4c3) (by decide +kernel) rfl rfl rfl (by decide +kernel)
set_option maxRecDepth 65536 in
theorem w_c16 : (Jvm.Cond.code ({ cls := "com/example/herring/herring/sim/FlowCapacitySetCarsPerSecondPinLaw", name := "piece", desc := "(II)J" } : Jvm.MethodName) method_3_code (2 : Nat) (Option.some Jvm.ClassFile.FieldType.long)).before args0 about1 = true := code_word (m := ⟨1, 2⟩) (meth := k1m2) (c := k1c2) (by decide +kernel) rfl rfl rfl (by decide +kernel)
def codes1 : List Jvm.Cond := [Jvm.Cond.code x code maxLocals ret, Jvm.Cond.code ({ cls := "com/example/herring/herring/sim/FlowCapacity", name := "<init>", desc := "()V" } : Jvm.MethodName) prog_60_method_1_code (1 : Nat) (Option.none : Option Jvm.ClassFile.FieldType), Jvm.Cond.code ({ cls := "java/lang/Object", name := "<init>", desc := "()V" } : Jvm.MethodName) object_method_1_code (1 : Nat) (Option.none : Option Jvm.ClassFile.FieldType), Jvm.Cond.code ({ cls := "com/example/herring/herring/sim/FlowCapacitySetCarsPerSecondPinLaw", name := "rate", desc := "(I)D" } : Jvm.MethodName) method_2_code (1 : Nat) (Option.some Jvm.ClassFile.FieldType.double), Jvm.Cond.code ({ cls := "com/example/herring/herring/sim/FlowCapacity", name := "setCarsPerSecond", desc := "(D)V" } : Jvm.MethodName) prog_60_method_2_code (3 : Nat) (Option.none : Option Jvm.ClassFile.FieldType), Jvm.Cond.code ({ cls := "com/example/herring/herring/sim/FlowCapacity", name := "count", desc := "(ID)V" } : Jvm.MethodName) prog_60_method_4_code (4 : Nat) (Option.none : Option Jvm.ClassFile.FieldType), Jvm.Cond.code ({ cls := "com/example/herring/herring/sim/FlowCapacity", name := "nextSecond", desc := "()J" } : Jvm.MethodName) prog_60_method_5_code (1 : Nat) (Option.some Jvm.ClassFile.FieldType.long), Jvm.Cond.code ({ cls := "com/example/herring/herring/sim/FlowCapacity", name := "turn", desc := "(D)D" } : Jvm.MethodName) prog_60_method_6_code (3 : Nat) (Option.some Jvm.ClassFile.FieldType.double), Jvm.Cond.code ({ cls := "com/example/herring/herring/sim/Rounding", name := "down", desc := "(D)I" } : Jvm.MethodName) prog_66_method_3_code (2 : Nat) (Option.some Jvm.ClassFile.FieldType.int), Jvm.Cond.code ({ cls := "java/lang/Math", name := "floor", desc := "(D)D" } : Jvm.MethodName) jdk_29_method_17_code (2 : Nat) (Option.some Jvm.ClassFile.FieldType.double), Jvm.Cond.code ({ cls := "java/lang/StrictMath", name := "floor", desc := "(D)D" } : Jvm.MethodName) jdk_128_method_17_code (2 : Nat) (Option.some Jvm.ClassFile.FieldType.double), Jvm.Cond.code ({ cls := "java/lang/StrictMath", name := "floorOrCeil", desc := "(DDDD)D" } : Jvm.MethodName) jdk_128_method_18_code (15 : Nat) (Option.some Jvm.ClassFile.FieldType.double), Jvm.Cond.code ({ cls := "java/lang/Math", name := "getExponent", desc := "(D)I" } : Jvm.MethodName) jdk_29_method_92_code (2 : Nat) (Option.some Jvm.ClassFile.FieldType.int), Jvm.Cond.code ({ cls := "com/example/herring/herring/sim/Rounding", name := "clamp", desc := "(D)I" } : Jvm.MethodName) prog_66_method_4_code (2 : Nat) (Option.some Jvm.ClassFile.FieldType.int), Jvm.Cond.code ({ cls := "java/lang/Math", name := "max", desc := "(DD)D" } : Jvm.MethodName) jdk_29_method_68_code (4 : Nat) (Option.some Jvm.ClassFile.FieldType.double), Jvm.Cond.code ({ cls := "java/lang/Math", name := "min", desc := "(DD)D" } : Jvm.MethodName) jdk_29_method_72_code (4 : Nat) (Option.some Jvm.ClassFile.FieldType.double), Jvm.Cond.code ({ cls := "com/example/herring/herring/sim/FlowCapacitySetCarsPerSecondPinLaw", name := "piece", desc := "(II)J" } : Jvm.MethodName) method_3_code (2 : Nat) (Option.some Jvm.ClassFile.FieldType.long)]
set_option maxRecDepth 65536 in
theorem codes_eq : words1.filter isCode = codes1 := rfl
theorem w_codes : ∀ c ∈ words1.filter isCode, c.before args0 about1 = true := by
  rw [codes_eq]
  intro c hc
  simp only [codes1, List.mem_cons, List.not_mem_nil, or_false] at hc
  rcases hc with rfl | rfl | rfl | rfl | rfl | rfl | rfl | rfl | rfl | rfl | rfl | rfl | rfl | rfl | rfl | rfl | rfl
  · exact w_c0
  · exact w_c1
  · exact w_c2
  · exact w_c3
  · exact w_c4
  · exact w_c5
  · exact w_c6
  · exact w_c7
  · exact w_c8
  · exact w_c9
  · exact w_c10
  · exact w_c11
  · exact w_c12
  · exact w_c13
  · exact w_c14
  · exact w_c15
  · exact w_c16
set_option maxRecDepth 65536 in
theorem w_t1 : (words1.take 24).all (fun c => isCode c || c.before args0 about1) = true := by decide +kernel
set_option maxRecDepth 65536 in
theorem w_t2 : ((words1.drop 24).take 24).all (fun c => isCode c || c.before args0 about1) = true := by decide +kernel
set_option maxRecDepth 65536 in
theorem w_t3 : (((words1.drop 24).drop 24).take 24).all (fun c => isCode c || c.before args0 about1) = true := by decide +kernel
set_option maxRecDepth 65536 in
theorem w_t4 : (((words1.drop 24).drop 24).drop 24).all (fun c => isCode c || c.before args0 about1) = true := by decide +kernel
theorem w_tables : (allAtoms (Jvm.Cond.code x code maxLocals ret :: tables_1)).before args0 about1 = true := by
  rw [allAtoms_all]
  show words1.all (fun c => c.before args0 about1) = true
  refine all_split ?_ w_codes
  rw [← List.take_append_drop 24 words1, List.all_append, w_t1, ← List.take_append_drop 24 (words1.drop 24), List.all_append, w_t2, ← List.take_append_drop 24 ((words1.drop 24).drop 24), List.all_append, w_t3, w_t4]
  rfl
set_option maxRecDepth 65536 in
theorem w_rest : rest_1_c.before args0 about1 = true := by decide +kernel
set_option maxRecDepth 65536 in
theorem w_case : (Jvm.Cond.and given_1 narrow_1).before args0 about1 = true := by decide +kernel
theorem w_applies : (headSpec (Jvm.Cond.code x code maxLocals ret :: tables_1) room_1).applies x e0.platform about1 = true :=
  (Spec.applies_iff w_frames).mpr ⟨w_running, w_runnable, w_alone, w_named, w_hears, w_ripe, w_room, w_tables⟩
theorem atStart : AtStart classFile x code maxLocals ret World_1 tables_1 room_1 Calls_1 rest_1 Pre_1 launch0 p0 e0 about1 theMethod args0 below0 :=
  ⟨lists_1, trivial, launch0.admits_env _ _ _, launch0.least_env, fairChoices_fair.cas, fairChoices_fair.clock, w_frames, w_args, w_heap, w_applies, trivial, w_rest, w_case⟩
end start1
theorem witness_1 : WitnessClaimed_1 := ⟨start1.p0, start1.e0, start1.about1, start1.theMethod, start1.args0, start1.below0, start1.atStart⟩
end Jvm.Pilot.@@N@@
