import JvmDerived
import JvmDerived.Pilot.@@N@@Statement
import JvmDerived.Pilot.@@N@@Code
set_option linter.unusedVariables false
set_option linter.unusedSimpArgs false
namespace Jvm.Pilot.@@N@@
open Jvm Jvm.ClassFile Sem Op Lib Jvm.Free Jvm.Stand Jvm.LawKit Jvm.RoadKit Bundle Jvm.Pilot.@@N@@.Jvm.D
theorem own_k {Z : State} {a0 : Array Value} (hw : ∀ d ∈ tables_1, d.before a0 Z = true) (i : Nat) {d : Jvm.Cond} (h : tables_1[i]? = some d) : d.before a0 Z = true := hw _ (List.mem_of_getElem? h)
section OwnFP
open FP.Core
/-- 2^1074: how many of the least doubles make one -/
def own_P : Nat := 2 ^ (-b64.qmin).toNat
theorem own_P_pos : 0 < own_P := Nat.two_pow_pos _
/-- a datum as a whole number of the least doubles -/
abbrev own_Z (x : Datum) : Int := zval b64 x
/-- x is N / D (in units of the least double), rounded -/
def own_R (N : Int) (D : Nat) (x : Datum) : Prop := 0 < D ∧ ∃ s : Bool, signed s N.natAbs = N ∧ x = roundRatio b64 s N.natAbs D b64.qmin
/-- a finite datum of the format -/
def own_F (x : Datum) : Prop := FP.Core.fits b64 x ∧ ∃ s c q, x = .fin s c q
theorem own_F.ne {x : Datum} (h : own_F x) : x ≠ .nan := by obtain ⟨-, s, c, q, rfl⟩ := h; exact nofun
theorem own_iu (A : Nat) (q : Int) : inUnits A q q = A := by unfold inUnits; simp
theorem own_e0 : 2 ^ (b64.qmin - b64.qmin).toNat = 1 := by simp
theorem own_R.ne {N : Int} {D : Nat} {x : Datum} (h : own_R N D x) : x ≠ .nan := by obtain ⟨-, s, -, rfl⟩ := h; exact roundRatio_ne_nan _ _ _ _ _
theorem own_R.fits {N : Int} {D : Nat} {x : Datum} (h : own_R N D x) : FP.Core.fits b64 x := by obtain ⟨hD, s, -, rfl⟩ := h; exact roundRatio_fits good_b64 _ _ hD _
theorem own_R_le {N : Int} {D : Nat} {x V : Datum} (h : own_R N D x) (hV : FP.Core.fits b64 V) (hn : V ≠ .nan) (hle : N ≤ own_Z V * (D : Int)) : own_Z x ≤ own_Z V := by
  obtain ⟨hD, s, hs, rfl⟩ := h
  have h1 := zmag_roundRatio_le good_b64 (s := s) (A := N.natAbs) (B := D) (e := b64.qmin) (e0 := b64.qmin) hD hV hn (Int.le_refl _) (Int.le_refl _)
  have h2 := zmag_roundRatio_ge good_b64 (s := s) (A := N.natAbs) (B := D) (e := b64.qmin) (e0 := b64.qmin) hD hV (Int.le_refl _) (Int.le_refl _)
  rw [own_iu, own_e0, Nat.mul_one] at h1 h2
  unfold own_Z zval at *
  rw [sgn_roundRatio]
  generalize zmag b64 (roundRatio b64 s N.natAbs D b64.qmin) = r at *
  generalize zmag b64 V = z at *
  have hz : z * D = 0 → z = 0 := by
    intro h
    rcases Nat.mul_eq_zero.mp h with h | h <;> omega
  have ez : (z : Int) * (D : Int) = ((z * D : Nat) : Int) := by push_cast; rfl
  generalize sgn V = t at *
  generalize hk : N.natAbs = k at *
  cases s <;> cases t <;> simp only [signed, if_true, Bool.false_eq_true, if_false, Int.neg_mul] at * <;> rw [ez] at hle <;> generalize z * D = w at *
  · have := h1 (by omega); omega
  · have := h1 (by omega); have := hz (by omega); omega
  · omega
  · have := h2 (by omega); omega
theorem own_R.neg {N : Int} {D : Nat} {x : Datum} (h : own_R N D x) : own_R (-N) D (negate x) := by
  obtain ⟨hD, s, hs, rfl⟩ := h
  refine ⟨hD, !s, ?_, ?_⟩
  · rw [Int.natAbs_neg]
    generalize N.natAbs = k at *
    cases s <;> simp only [signed, if_true, Bool.false_eq_true, if_false, Bool.not_true, Bool.not_false] at * <;> omega
  · rw [Int.natAbs_neg, negate_roundRatio]
theorem own_R_ge {N : Int} {D : Nat} {x V : Datum} (h : own_R N D x) (hV : FP.Core.fits b64 V) (hn : V ≠ .nan) (hle : own_Z V * (D : Int) ≤ N) : own_Z V ≤ own_Z x := by
  have q := own_R_le h.neg (V := negate V) (negate_fits hV) (negate_ne_nan hn) (by unfold own_Z at *; rw [zval_negate, Int.neg_mul]; omega)
  unfold own_Z at *
  rw [zval_negate, zval_negate] at q
  omega
theorem own_mag_mono {s : Bool} {A1 D1 A2 D2 : Nat} (h1 : 0 < D1) (h2 : 0 < D2) {c1 c2 : Nat} {q1 q2 : Int} {s1 s2 : Bool} (hx : roundRatio b64 s A1 D1 b64.qmin = .fin s1 c1 q1) (hy : roundRatio b64 s A2 D2 b64.qmin = .fin s2 c2 q2) (h : A1 * D2 ≤ A2 * D1) :
    zmag b64 (.fin s1 c1 q1) ≤ zmag b64 (.fin s2 c2 q2) := by
  have fx : FP.Core.fits b64 (.fin s1 c1 q1) := hx ▸ roundRatio_fits good_b64 s A1 h1 _
  have fy : FP.Core.fits b64 (.fin s2 c2 q2) := hy ▸ roundRatio_fits good_b64 s A2 h2 _
  have l1 := zmag_roundRatio_le good_b64 (s := s) (A := A1) (B := D1) (e := b64.qmin) (e0 := b64.qmin) h1 fy (by exact nofun) (Int.le_refl _) (Int.le_refl _)
  have l2 := zmag_roundRatio_ge good_b64 (s := s) (A := A2) (B := D2) (e := b64.qmin) (e0 := b64.qmin) h2 fx (Int.le_refl _) (Int.le_refl _)
  have n1 := roundRatio_nearest good_b64 h1 hx fy.1 fy.2.1 (Int.le_refl _) (Int.le_refl _)
  have n2 := roundRatio_nearest good_b64 h2 hy fx.1 fx.2.1 (Int.le_refl _) (Int.le_refl _)
  rw [own_iu, own_e0, Nat.mul_one] at l1 l2
  rw [hx] at l1
  rw [hy] at l2
  unfold distance at n1 n2
  rw [own_iu] at n1 n2
  change zmag b64 (.fin s1 c1 q1) ≤ _
  have ex : inUnits c1 q1 b64.qmin = zmag b64 (.fin s1 c1 q1) := rfl
  have ey : inUnits c2 q2 b64.qmin = zmag b64 (.fin s2 c2 q2) := rfl
  rw [ex, ey] at n1 n2
  rcases Nat.lt_or_ge (zmag b64 (.fin s2 c2 q2)) (zmag b64 (.fin s1 c1 q1)) with hlt | hge
  · exfalso
    have k1 : zmag b64 (.fin s2 c2 q2) * D1 < A1 := Nat.lt_of_not_le fun q => absurd (l1 q) (Nat.not_le.mpr hlt)
    have k2 : A2 < zmag b64 (.fin s1 c1 q1) * D2 := Nat.lt_of_not_le fun q => absurd (l2 q) (Nat.not_le.mpr hlt)
    generalize zmag b64 (.fin s1 c1 q1) = zx at *
    generalize zmag b64 (.fin s2 c2 q2) = zy at *
    -- A1 < zx * D1, zy * D2 < A2
    have k3 : A1 < zx * D1 := by
      have : A1 * D2 < zx * D1 * D2 := Nat.lt_of_le_of_lt h (by
        have := Nat.mul_lt_mul_of_pos_right k2 h1
        calc A2 * D1 < zx * D2 * D1 := this
          _ = zx * D1 * D2 := by rw [Nat.mul_assoc, Nat.mul_comm D2 D1, ← Nat.mul_assoc])
      exact Nat.lt_of_mul_lt_mul_right this
    have k4 : zy * D2 < A2 := by
      have : zy * D2 * D1 < A2 * D1 := Nat.lt_of_lt_of_le (by
        have := Nat.mul_lt_mul_of_pos_right k1 h2
        calc zy * D2 * D1 = zy * D1 * D2 := by rw [Nat.mul_assoc, Nat.mul_comm D2 D1, ← Nat.mul_assoc]
          _ < A1 * D2 := this) h
      exact Nat.lt_of_mul_lt_mul_right this
    have m1 : zx * D1 + zy * D1 ≤ 2 * A1 := by
      have e1 : (zx : Int) * (D1 : Int) = ((zx * D1 : Nat) : Int) := by push_cast; rfl
      have e2 : (zy : Int) * (D1 : Int) = ((zy * D1 : Nat) : Int) := by push_cast; rfl
      rw [e1, e2] at n1
      generalize zx * D1 = u at *
      generalize zy * D1 = v at *
      omega
    have m2 : 2 * A2 ≤ zx * D2 + zy * D2 := by
      have e1 : (zx : Int) * (D2 : Int) = ((zx * D2 : Nat) : Int) := by push_cast; rfl
      have e2 : (zy : Int) * (D2 : Int) = ((zy * D2 : Nat) : Int) := by push_cast; rfl
      rw [e1, e2] at n2
      generalize zx * D2 = u at *
      generalize zy * D2 = v at *
      omega
    have p1 : (zx + zy) * D1 * D2 ≤ 2 * A1 * D2 := Nat.mul_le_mul_right _ (by rw [Nat.add_mul]; exact m1)
    have p2 : 2 * A2 * D1 ≤ (zx + zy) * D2 * D1 := Nat.mul_le_mul_right _ (by rw [Nat.add_mul]; exact m2)
    have p3 : (zx + zy) * D2 * D1 = (zx + zy) * D1 * D2 := by rw [Nat.mul_assoc, Nat.mul_comm D2 D1, ← Nat.mul_assoc]
    have p4 : A2 * D1 ≤ A1 * D2 := by
      have q1 : (zx + zy) * D1 * D2 ≤ 2 * (A1 * D2) := by rw [← Nat.mul_assoc 2]; exact p1
      have q2 : 2 * (A2 * D1) ≤ (zx + zy) * D1 * D2 := by rw [← Nat.mul_assoc 2, ← p3]; exact p2
      generalize (zx + zy) * D1 * D2 = w at *
      generalize A1 * D2 = u at *
      generalize A2 * D1 = v at *
      omega
    have p5 : A1 * D2 = A2 * D1 := Nat.le_antisymm h p4
    have cg := roundRatio_congr (f := b64) (s := s) (A := A1) (B := D1) (A' := A2) (B' := D2) (e := b64.qmin) (e' := b64.qmin) h1 h2 (by rw [own_e0, Nat.mul_one, Nat.mul_one]; exact p5)
    rw [hx, hy] at cg
    cases cg
    omega
  · exact hge
theorem own_R_mono {N1 N2 : Int} {D1 D2 : Nat} {x y : Datum} (hx : own_R N1 D1 x) (hy : own_R N2 D2 y) (fx : ∃ s c q, x = .fin s c q) (fy : ∃ s c q, y = .fin s c q) (h : N1 * (D2 : Int) ≤ N2 * (D1 : Int)) : own_Z x ≤ own_Z y := by
  obtain ⟨h1, s, hs, ex⟩ := hx
  obtain ⟨h2, t, ht, ey⟩ := hy
  obtain ⟨s1, c1, q1, rfl⟩ := fx
  obtain ⟨s2, c2, q2, rfl⟩ := fy
  have g1 : s1 = s := by have := sgn_roundRatio b64 s N1.natAbs D1 b64.qmin; rw [← ex] at this; exact this
  have g2 : s2 = t := by have := sgn_roundRatio b64 t N2.natAbs D2 b64.qmin; rw [← ey] at this; exact this
  subst g1 g2
  unfold own_Z zval
  show signed s1 _ ≤ signed s2 _
  generalize hA : N1.natAbs = A at *
  generalize hB : N2.natAbs = B at *
  have eA : (A : Int) * (D2 : Int) = ((A * D2 : Nat) : Int) := by push_cast; rfl
  have eB : (B : Int) * (D1 : Int) = ((B * D1 : Nat) : Int) := by push_cast; rfl
  cases s1 <;> cases s2 <;> simp only [signed, if_true, Bool.false_eq_true, if_false] at hs ht ⊢ <;> rw [← hs, ← ht] at h <;> (try rw [Int.neg_mul] at h) <;> (try rw [Int.neg_mul] at h) <;> rw [eA, eB] at h
  · have := own_mag_mono h1 h2 ex.symm ey.symm (by omega)
    omega
  · have a0 : A * D2 = 0 := by omega
    have b0 : B * D1 = 0 := by omega
    have a1 : A = 0 := by rcases Nat.mul_eq_zero.mp a0 with q | q <;> omega
    have b1 : B = 0 := by rcases Nat.mul_eq_zero.mp b0 with q | q <;> omega
    subst a1 b1
    have u1 : roundRatio b64 false 0 D1 b64.qmin = .fin false 0 b64.qmin := by simp [roundRatio]
    have u2 : roundRatio b64 true 0 D2 b64.qmin = .fin true 0 b64.qmin := by simp [roundRatio]
    rw [u1] at ex
    rw [u2] at ey
    cases ex
    cases ey
    simp [zmag, inUnits]
  · omega
  · have := own_mag_mono h2 h1 ey.symm ex.symm (by omega)
    omega
/-- the four operations and the conversions are roundings -/
theorem own_R_of {x : Datum} (h : own_F x) : own_R (own_Z x) 1 x := by
  obtain ⟨hf, s, c, q, rfl⟩ := h
  refine ⟨Nat.one_pos, s, ?_, ?_⟩
  · show signed s (signed s _).natAbs = signed s _
    rw [natAbs_signed]
  · have e1 : (own_Z (.fin s c q)).natAbs = inUnits c q b64.qmin := natAbs_signed _ _
    rw [e1]
    have r := round_of_fits good_b64 hf
    have cg := roundRatio_congr (f := b64) (s := s) (A := c) (B := 1) (A' := inUnits c q b64.qmin) (B' := 1) (e := q) (e' := b64.qmin) Nat.one_pos Nat.one_pos (by
      have hq := hf.2.1
      unfold inUnits
      rw [show (b64.qmin - q).toNat = 0 by omega]
      simp)
    rw [← cg]
    exact r.symm
theorem own_round_R {s : Bool} {n : Nat} {e : Int} (he : b64.qmin ≤ e) : own_R (signed s (inUnits n e b64.qmin)) 1 (round b64 (.fin s n e)) := by
  refine ⟨Nat.one_pos, s, ?_, ?_⟩
  · rw [natAbs_signed]
  · rw [natAbs_signed]
    refine roundRatio_congr (f := b64) Nat.one_pos Nat.one_pos ?_
    unfold inUnits
    rw [show (b64.qmin - e).toNat = 0 by omega]
    simp
theorem own_add {a b : UInt64} (ha : own_F (val64 a)) (hb : own_F (val64 b)) : own_R (own_Z (val64 a) + own_Z (val64 b)) 1 (val64 (FP.dadd a b)) := by
  obtain ⟨fa, s, c, q, ea⟩ := ha
  obtain ⟨fb, t, d, r, eb⟩ := hb
  show own_R _ 1 (val64 (dadd a b))
  rw [val64_dadd, ea, eb]
  rw [ea] at fa
  rw [eb] at fb
  obtain ⟨sg, n, e, h1, h2, h3⟩ := sum_units fa fb
  rw [h1, ← h3]
  exact own_round_R h2
theorem own_mul {a b : UInt64} (ha : own_F (val64 a)) (hb : own_F (val64 b)) : own_R (own_Z (val64 a) * own_Z (val64 b)) own_P (val64 (FP.dmul a b)) := by
  obtain ⟨fa, s, c, q, ea⟩ := ha
  obtain ⟨fb, t, d, r, eb⟩ := hb
  show own_R _ _ (val64 (dmul a b))
  rw [val64_dmul, ea, eb]
  rw [ea] at fa
  rw [eb] at fb
  obtain ⟨h1, h2, h3⟩ := product_units fa fb
  rw [h1]
  have e1 : own_Z (.fin s c q) * own_Z (.fin t d r) = signed (s != t) (zmag b64 (.fin s c q) * zmag b64 (.fin t d r)) := (signed_xor _ _ _ _).symm
  rw [e1]
  refine ⟨own_P_pos, s != t, ?_, ?_⟩
  · rw [natAbs_signed]
  · rw [natAbs_signed, ← h3]
    refine roundRatio_congr (f := b64) Nat.one_pos own_P_pos ?_
    have g1 := fa.2.1
    have g2 := fb.2.1
    have g0 := qmin_neg good_b64
    unfold inUnits own_P
    generalize b64.qmin = Q at *
    rw [Nat.mul_one]
    simp only [Nat.mul_assoc, ← Nat.pow_add]
    congr 3
    omega
theorem own_div {a b : UInt64} (ha : own_F (val64 a)) (hb : own_F (val64 b)) (hz : 0 < own_Z (val64 b)) : own_R (own_Z (val64 a) * (own_P : Int)) (own_Z (val64 b)).natAbs (val64 (FP.ddiv a b)) := by
  obtain ⟨fa, s, c, q, ea⟩ := ha
  obtain ⟨fb, t, d, r, eb⟩ := hb
  show own_R _ _ (val64 (ddiv a b))
  rw [val64_ddiv, ea, eb]
  rw [ea] at fa
  rw [eb] at fb hz
  have hd : d ≠ 0 := by
    rintro rfl
    have : own_Z (.fin t 0 r) = 0 := by show signed t (inUnits 0 r _) = 0; unfold inUnits; rw [Nat.zero_mul]; exact signed_zero t
    omega
  have ht : t = false := by
    cases t
    · rfl
    · exfalso
      have : own_Z (.fin true d r) = -((inUnits d r b64.qmin : Nat) : Int) := rfl
      omega
  subst ht
  have zb : (own_Z (.fin false d r)).natAbs = inUnits d r b64.qmin := natAbs_signed _ _
  have zp : 0 < inUnits d r b64.qmin := by omega
  rw [zb]
  have e1 : own_Z (.fin s c q) * (own_P : Int) = signed s (inUnits c q b64.qmin * own_P) := (signed_mul _ _ _).symm
  rw [e1]
  refine ⟨zp, s, ?_, ?_⟩
  · rw [natAbs_signed]
  · rw [natAbs_signed]
    show (if d = 0 then _ else roundRatio b64 (s != false) c d (q - r)) = _
    rw [if_neg hd, Bool.bne_false]
    refine roundRatio_congr (f := b64) (Nat.pos_of_ne_zero hd) zp ?_
    have g1 := fa.2.1
    have g2 := fb.2.1
    have g0 := qmin_neg good_b64
    unfold inUnits own_P
    generalize b64.qmin = Q at *
    have w : c * (d * 2 ^ (r - Q).toNat) * 2 ^ (q - r - Q).toNat = c * d * 2 ^ ((r - Q).toNat + (q - r - Q).toNat) := by rw [Nat.pow_add]; ac_rfl
    have v : c * 2 ^ (q - Q).toNat * 2 ^ (-Q).toNat * d * 2 ^ (Q - (q - r)).toNat = c * d * 2 ^ ((q - Q).toNat + (-Q).toNat + (Q - (q - r)).toNat) := by rw [Nat.pow_add, Nat.pow_add]; ac_rfl
    rw [w, v]
    congr 2
    omega
theorem own_ofInt (i : Int) : own_R (i * (own_P : Int)) 1 (round b64 (ofInt i)) := by
  have h : i * (own_P : Int) = signed (decide (i < 0)) (inUnits i.natAbs 0 b64.qmin) := by
    unfold inUnits own_P
    rw [signed_mul]
    have g : signed (decide (i < 0)) i.natAbs = i := by unfold signed; by_cases q : i < 0 <;> simp [q] <;> omega
    rw [g, show (0 - b64.qmin) = -b64.qmin by omega]
  rw [h]
  exact own_round_R (by have := qmin_neg good_b64; omega)
theorem own_l2d (v : Int64) : own_R (v.toInt * (own_P : Int)) 1 (val64 (FP.l2d v)) := by
  show own_R _ 1 (val64 (l2d v)); rw [val64_l2d]; exact own_ofInt _
theorem own_i2d (v : Int32) : own_R (v.toInt * (own_P : Int)) 1 (val64 (FP.i2d v)) := by
  show own_R _ 1 (val64 (i2d v)); rw [val64_i2d]; exact own_ofInt _
/-- a number of at most 53 digits is a double -/
theorem own_rep (s : Bool) {c : Nat} {q : Int} (hc : c < 2 ^ 53) (h1 : b64.qmin ≤ q) (h2 : q ≤ b64.qmax) : ∃ V, own_F V ∧ own_Z V = signed s (inUnits c q b64.qmin) := by
  obtain ⟨c', q', h3, h4⟩ := round_exact good_b64 s (c := c) hc h1 h2
  refine ⟨round b64 (.fin s c q), ⟨round_fits good_b64 _, s, c', q', h3⟩, ?_⟩
  rw [h3, ← h4]
  rfl
theorem own_R_eq {N : Int} {D : Nat} {x V : Datum} (h : own_R N D x) (hV : own_F V) (he : N = own_Z V * (D : Int)) : own_Z x = own_Z V :=
  Int.le_antisymm (own_R_le h hV.1 hV.ne (by omega)) (own_R_ge h hV.1 hV.ne (by omega))
theorem own_cmpZ {a b : UInt64} (ha : val64 a ≠ .nan) (hb : val64 b ≠ .nan) : FP.dcmp a b = some (compare (own_Z (val64 a)) (own_Z (val64 b))) :=
  order_zval good_b64 (val64_fits a) (val64_fits b) ha hb
/-- finite, by its bits -/
theorem own_F_of {a : UInt64} (h : Jvm.Free.Fl.Fin64 a) : own_F (val64 a) := ⟨val64_fits a, Jvm.Free.Fl.fin64_core.mp h⟩
theorem own_nn {a : UInt64} (h : val64 a ≠ .nan) : Jvm.Free.Fl.NoNaN64 a := by
  rw [Jvm.Free.Fl.noNaN64_no, notNaN_iff]; exact h
/-- a rounding that stays below a finite number in size is finite -/
theorem own_fin {N : Int} {D : Nat} {a : UInt64} {V : Datum} (h : own_R N D (val64 a)) (hV : own_F V) (h1 : -own_Z V * (D : Int) ≤ N) (h2 : N ≤ own_Z V * (D : Int)) : own_F (val64 a) := by
  refine ⟨val64_fits a, ?_⟩
  have l := own_R_le h hV.1 hV.ne h2
  have g := own_R_ge h (V := negate V) (negate_fits hV.1) (negate_ne_nan hV.ne) (by unfold own_Z at *; rw [zval_negate]; exact h1)
  have n := h.ne
  have lt : own_Z V < (b64.tails * 2 ^ (b64.exps - 2) : Nat) ∧ -own_Z V < (b64.tails * 2 ^ (b64.exps - 2) : Nat) := by
    obtain ⟨hf, s, c, q, rfl⟩ := hV
    have := zmag_lt_top good_b64 hf
    unfold own_Z zval
    have this : inUnits c q b64.qmin < b64.tails * 2 ^ (b64.exps - 2) := this
    show signed s (inUnits c q b64.qmin) < _ ∧ -signed s (inUnits c q b64.qmin) < _
    generalize inUnits c q b64.qmin = z at *
    generalize b64.tails * 2 ^ (b64.exps - 2) = t at *
    cases s <;> simp only [signed, if_true, Bool.false_eq_true, if_false] <;> omega
  unfold own_Z at *
  rw [zval_negate] at g
  cases hx : val64 a with
  | nan => exact absurd hx n
  | fin s c q => exact ⟨s, c, q, rfl⟩
  | inf s =>
    exfalso
    rw [hx] at l g
    have e : zval b64 (.inf s) = signed s (b64.tails * 2 ^ (b64.exps - 2)) := rfl
    rw [e] at l g
    generalize b64.tails * 2 ^ (b64.exps - 2) = t at *
    cases s <;> simp only [signed, if_true, Bool.false_eq_true, if_false] at * <;> omega
end OwnFP
section OwnU
open FP.Core
/-- 2^k in units of the least double -/
def own_u (k : Int) : Nat := 2 ^ (k - b64.qmin).toNat
theorem own_u_pos (k : Int) : 0 < own_u k := Nat.two_pow_pos _
theorem own_u_mul {k j : Int} {n : Nat} (h1 : b64.qmin ≤ j) (h2 : k = j + n) : own_u k = own_u j * 2 ^ n := by
  unfold own_u; rw [← Nat.pow_add]; congr 1; omega
theorem own_uI {k j : Int} {n : Nat} {c : Int} (h1 : b64.qmin ≤ j) (h2 : k = j + n) (hc : ((2 ^ n : Nat) : Int) = c) : (own_u k : Int) = c * (own_u j : Int) := by
  rw [own_u_mul h1 h2, Int.natCast_mul, hc, Int.mul_comm]
theorem own_P_u : own_P = own_u 0 := by unfold own_P own_u; rw [show (0 : Int) - b64.qmin = -b64.qmin by omega]
theorem own_sgn (i : Int) : signed (decide (i < 0)) i.natAbs = i := by unfold signed; by_cases q : i < 0 <;> simp [q] <;> omega
/-- i * 2^q is a double, for i of at most 53 digits -/
theorem own_repI {i : Int} (h : i.natAbs < 2 ^ 53) {q : Int} (h1 : b64.qmin ≤ q) (h2 : q ≤ b64.qmax) : ∃ V, own_F V ∧ own_Z V = i * (own_u q : Int) := by
  obtain ⟨V, hV, hz⟩ := own_rep (decide (i < 0)) (c := i.natAbs) (q := q) h h1 h2
  refine ⟨V, hV, ?_⟩
  rw [hz]
  show signed _ (i.natAbs * own_u q) = _
  rw [signed_mul, own_sgn]
theorem own_valZ {a : UInt64} {c : Nat} {q : Int} (h : val64 a = .fin false c q) : own_Z (val64 a) = (c : Int) * (own_u q : Int) := by
  rw [h]
  show signed false (c * own_u q) = _
  rw [signed_mul]; rfl
theorem own_i2dZ (v : Int32) : own_Z (val64 (FP.i2d v)) = v.toInt * (own_P : Int) := by
  have r := rng32 v
  obtain ⟨V, hV, hz⟩ := own_repI (i := v.toInt) (by omega) (q := 0) (by decide) (by decide)
  rw [← own_P_u] at hz
  rw [own_R_eq (own_i2d v) hV (by rw [hz]; simp), hz]
theorem own_l2dZ {v : Int64} (h : v.toInt.natAbs < 2 ^ 53) : own_Z (val64 (FP.l2d v)) = v.toInt * (own_P : Int) := by
  obtain ⟨V, hV, hz⟩ := own_repI (i := v.toInt) h (q := 0) (by decide) (by decide)
  rw [← own_P_u] at hz
  rw [own_R_eq (own_l2d v) hV (by rw [hz]; simp), hz]
theorem own_i2dF (v : Int32) : own_F (val64 (FP.i2d v)) := own_F_of (Jvm.Free.Fl.i2d_fin v)
theorem own_l2dF (v : Int64) : own_F (val64 (FP.l2d v)) := own_F_of (Jvm.Free.Fl.l2d_fin v)
/-- the comparisons, by the values -/
theorem own_cle {a b : UInt64} (ha : val64 a ≠ .nan) (hb : val64 b ≠ .nan) (h : own_Z (val64 a) ≤ own_Z (val64 b)) (o : CmpOp) : ¬ (0 : Int32) < cmpValue (FP.dcmp a b) o := by
  rw [own_cmpZ ha hb]
  rcases Int.lt_or_eq_of_le h with q | q
  · rw [show compare (own_Z (val64 a)) (own_Z (val64 b)) = .lt from by simp [compare, compareOfLessAndEq, q]]; cases o <;> decide
  · rw [q, compare_self_int]; cases o <;> decide
theorem own_cge {a b : UInt64} (ha : val64 a ≠ .nan) (hb : val64 b ≠ .nan) (h : own_Z (val64 b) ≤ own_Z (val64 a)) (o : CmpOp) : ¬ cmpValue (FP.dcmp a b) o < (0 : Int32) := by
  rw [own_cmpZ ha hb]
  rcases Int.lt_or_eq_of_le h with q | q
  · rw [show compare (own_Z (val64 a)) (own_Z (val64 b)) = .gt from by simp [compare, compareOfLessAndEq, show ¬ own_Z (val64 a) < own_Z (val64 b) by omega, show ¬ own_Z (val64 a) = own_Z (val64 b) by omega]]; cases o <;> decide
  · rw [q, compare_self_int]; cases o <;> decide
theorem own_ceq {a b : UInt64} (ha : val64 a ≠ .nan) (hb : val64 b ≠ .nan) (h : own_Z (val64 a) = own_Z (val64 b)) (o : CmpOp) : cmpValue (FP.dcmp a b) o = 0 := by
  rw [own_cmpZ ha hb, h, compare_self_int]; cases o <;> rfl
end OwnU
section OwnBm
open FP.Core
abbrev own_K : UInt64 := 4608083138725491507
abbrev own_Qr : UInt64 := 4598175219545276416
abbrev own_B : UInt64 := 4604930618986332160
abbrev own_L : UInt64 := 4599075939470750515
abbrev own_4 : UInt64 := 4616189618054758400
theorem own_Kv : val64 own_K = .fin false 5404319552844595 (-52) := by decide +kernel
theorem own_Lv : val64 own_L = .fin false 5404319552844595 (-54) := by decide +kernel
theorem own_Qv : val64 own_Qr = .fin false 4503599627370496 (-54) := by decide +kernel
theorem own_Bv : val64 own_B = .fin false 6755399441055744 (-53) := by decide +kernel
theorem own_4v : val64 own_4 = .fin false 4503599627370496 (-50) := by decide +kernel
theorem own_KF : own_F (val64 own_K) := ⟨val64_fits _, _, _, _, own_Kv⟩
theorem own_LF : own_F (val64 own_L) := ⟨val64_fits _, _, _, _, own_Lv⟩
theorem own_QF : own_F (val64 own_Qr) := ⟨val64_fits _, _, _, _, own_Qv⟩
theorem own_BF : own_F (val64 own_B) := ⟨val64_fits _, _, _, _, own_Bv⟩
theorem own_4F : own_F (val64 own_4) := ⟨val64_fits _, _, _, _, own_4v⟩
/-- the unit 2^-54 -/
def own_w : Int := (own_u (-54) : Int)
theorem own_w_pos : 0 < own_w := by have := own_u_pos (-54); unfold own_w; omega
theorem own_wP : (own_P : Int) = 18014398509481984 * own_w := by
  rw [own_P_u, own_uI (k := 0) (j := -54) (n := 54) (c := 18014398509481984) (by decide) (by decide) (by rfl)]; rfl
theorem own_KZ : own_Z (val64 own_K) = 21617278211378380 * own_w := by
  rw [own_valZ own_Kv, own_uI (k := -52) (j := -54) (n := 2) (c := 4) (by decide) (by decide) (by rfl)]; unfold own_w; omega
theorem own_LZ : own_Z (val64 own_L) = 5404319552844595 * own_w := by rw [own_valZ own_Lv]; unfold own_w; rfl
theorem own_QZ : own_Z (val64 own_Qr) = 4503599627370496 * own_w := by rw [own_valZ own_Qv]; unfold own_w; rfl
theorem own_BZ : own_Z (val64 own_B) = 13510798882111488 * own_w := by
  rw [own_valZ own_Bv, own_uI (k := -53) (j := -54) (n := 1) (c := 2) (by decide) (by decide) (by rfl)]; unfold own_w; omega
theorem own_4Z : own_Z (val64 own_4) = 72057594037927936 * own_w := by
  rw [own_valZ own_4v, own_uI (k := -50) (j := -54) (n := 4) (c := 16) (by decide) (by decide) (by rfl)]; unfold own_w; omega
/-- quarters: i / 4 is a double -/
theorem own_rep4 {i : Int} (h : i.natAbs < 2 ^ 53) : ∃ V, own_F V ∧ own_Z V = i * (4503599627370496 * own_w) := by
  obtain ⟨V, hV, hz⟩ := own_repI (i := i) h (q := -2) (by decide) (by decide)
  refine ⟨V, hV, ?_⟩
  rw [hz, own_uI (k := -2) (j := -54) (n := 52) (c := 4503599627370496) (by decide) (by decide) (by rfl)]
  rfl
abbrev own_m (x : Int32) : UInt64 := FP.dmul own_B (FP.i2d x)
abbrev own_q (x a : Int32) : UInt64 := FP.ddiv (own_m x) (FP.i2d a)
abbrev own_s (x a : Int32) : UInt64 := FP.dadd own_Qr (own_q x a)
abbrev own_f (x a : Int32) : UInt64 := FP.dmul own_K (own_s x a)
/-- own_T: a quarter -/
def own_t : Int := 4503599627370496 * own_w
theorem own_t_pos : 0 < own_t := by have := own_w_pos; unfold own_t; omega
theorem own_tP : (own_P : Int) = 4 * own_t := by rw [own_wP]; unfold own_t; omega
theorem own_mF (x : Int32) (hx : 0 ≤ x.toInt) : own_F (val64 (own_m x)) ∧ own_Z (val64 (own_m x)) = 3 * x.toInt * own_t := by
  have r := rng32 x
  have h := own_mul own_BF (own_i2dF x)
  rw [own_BZ, own_i2dZ] at h
  obtain ⟨V, hV, hz⟩ := own_rep4 (i := 3 * x.toInt) (by omega)
  have e : 13510798882111488 * own_w * (x.toInt * (own_P : Int)) = own_Z V * (own_P : Int) := by
    rw [hz, ← Int.mul_assoc]
    congr 1
    rw [Int.mul_comm (13510798882111488 * own_w), ← Int.mul_assoc, ← Int.mul_assoc]
    congr 1
    omega
  have p : 0 ≤ own_Z V := by rw [hz]; exact Int.mul_nonneg (by omega) (by have := own_w_pos; omega)
  refine ⟨own_fin h hV ?_ ?_, ?_⟩
  · rw [e, Int.neg_mul]
    have := Int.mul_nonneg p (show (0 : Int) ≤ (own_P : Int) by omega)
    omega
  · rw [e]; exact Int.le_refl _
  · rw [own_R_eq h hV e, hz]; rfl
theorem own_iP {a : Int32} (ha : 1 ≤ a.toInt) : 0 < own_Z (val64 (FP.i2d a)) ∧ ((own_Z (val64 (FP.i2d a))).natAbs : Int) = a.toInt * (own_P : Int) := by
  rw [own_i2dZ]
  have pp := own_P_pos
  have : 0 < a.toInt * (own_P : Int) := Int.mul_pos (by omega) (by omega)
  omega
theorem own_qF (x a : Int32) (hx : 0 ≤ x.toInt) (ha : 1 ≤ a.toInt) : own_F (val64 (own_q x a)) ∧ own_R (3 * x.toInt * own_t * (own_P : Int)) (own_Z (val64 (FP.i2d a))).natAbs (val64 (own_q x a)) ∧ 0 ≤ own_Z (val64 (own_q x a)) ∧ own_Z (val64 (own_q x a)) ≤ 3 * x.toInt * own_t := by
  obtain ⟨fm, zm⟩ := own_mF x hx
  obtain ⟨p1, p2⟩ := own_iP ha
  have h := own_div fm (own_i2dF a) p1
  rw [zm] at h
  have pp : (0 : Int) < (own_P : Int) := by have := own_P_pos; omega
  have pt := own_t_pos
  have n0 : 0 ≤ 3 * x.toInt * own_t := Int.mul_nonneg (by omega) (by omega)
  have n1 : 0 ≤ 3 * x.toInt * own_t * (own_P : Int) := Int.mul_nonneg n0 (by omega)
  have le : 3 * x.toInt * own_t * (own_P : Int) ≤ 3 * x.toInt * own_t * ((own_Z (val64 (FP.i2d a))).natAbs : Int) := by
    rw [p2]
    refine Int.mul_le_mul_of_nonneg_left ?_ n0
    have := Int.mul_le_mul_of_nonneg_right ha (show (0 : Int) ≤ (own_P : Int) by omega)
    omega
  obtain ⟨Z0, hZ0, hz0⟩ := own_rep4 (i := 0) (by decide)
  refine ⟨own_fin h fm ?_ ?_, h, ?_, ?_⟩
  · rw [zm, Int.neg_mul]
    have := Int.mul_nonneg n0 (show (0 : Int) ≤ ((own_Z (val64 (FP.i2d a))).natAbs : Int) by omega)
    omega
  · rw [zm]; exact le
  · have g := own_R_ge h hZ0.1 hZ0.ne (by rw [hz0, Int.zero_mul, Int.zero_mul]; exact n1)
    rw [hz0, Int.zero_mul] at g
    exact g
  · have l := own_R_le h fm.1 fm.ne (by rw [zm]; exact le)
    rwa [zm] at l
theorem own_sF (x a : Int32) (hx : 0 ≤ x.toInt) (ha : 1 ≤ a.toInt) : own_F (val64 (own_s x a)) ∧ own_R (own_t + own_Z (val64 (own_q x a))) 1 (val64 (own_s x a)) ∧ own_t ≤ own_Z (val64 (own_s x a)) ∧ own_Z (val64 (own_s x a)) ≤ 1099511627776 * own_t := by
  obtain ⟨fq, -, q0, q1⟩ := own_qF x a hx ha
  have r := rng32 x
  have pt := own_t_pos
  have h := own_add own_QF fq
  have eQ : own_Z (val64 own_Qr) = own_t := own_QZ
  rw [eQ] at h
  obtain ⟨V, hV, hz⟩ := own_rep4 (i := 1099511627776) (by decide)
  have b : 3 * x.toInt * own_t ≤ 6442450944 * own_t := Int.mul_le_mul_of_nonneg_right (by omega) (by omega)
  have hz' : own_Z V = 1099511627776 * own_t := hz
  refine ⟨own_fin h hV ?_ ?_, h, ?_, ?_⟩
  · rw [hz']; omega
  · rw [hz']; omega
  · have g := own_R_ge h own_QF.1 own_QF.ne (by rw [eQ]; omega)
    rwa [eQ] at g
  · have l := own_R_le h hV.1 hV.ne (by rw [hz']; omega)
    rwa [hz'] at l
theorem own_fF (x a : Int32) (hx : 0 ≤ x.toInt) (ha : 1 ≤ a.toInt) : own_F (val64 (own_f x a)) ∧ own_R (own_Z (val64 own_K) * own_Z (val64 (own_s x a))) own_P (val64 (own_f x a)) := by
  obtain ⟨fs, -, s0, s1⟩ := own_sF x a hx ha
  have h := own_mul own_KF fs
  have pt := own_t_pos
  have pw := own_w_pos
  obtain ⟨V, hV, hz⟩ := own_rep4 (i := 2199023255552) (by decide)
  have hz' : own_Z V = 2199023255552 * own_t := hz
  have k0 : 0 ≤ own_Z (val64 own_K) := by rw [own_KZ]; omega
  have k1 : own_Z (val64 own_K) ≤ 2 * (own_P : Int) := by rw [own_KZ, own_wP]; omega
  have n0 : 0 ≤ own_Z (val64 own_K) * own_Z (val64 (own_s x a)) := Int.mul_nonneg k0 (by omega)
  have n1 : own_Z (val64 own_K) * own_Z (val64 (own_s x a)) ≤ 2 * (own_P : Int) * (1099511627776 * own_t) := by
    refine Int.le_trans (Int.mul_le_mul_of_nonneg_right k1 (by omega)) ?_
    exact Int.mul_le_mul_of_nonneg_left s1 (by omega)
  have e : 2 * (own_P : Int) * (1099511627776 * own_t) = 2199023255552 * own_t * (own_P : Int) := by
    rw [Int.mul_comm (2 * (own_P : Int)), ← Int.mul_assoc, show 1099511627776 * own_t * 2 = 2199023255552 * own_t by omega]
  refine ⟨own_fin h hV ?_ ?_, h⟩
  · rw [hz', Int.neg_mul]
    have := Int.mul_nonneg (show (0 : Int) ≤ 2199023255552 * own_t by omega) (show (0 : Int) ≤ (own_P : Int) by omega)
    omega
  · rw [hz', ← e]; exact n1
theorem own_f_of_s {x a y b : Int32} (hx : 0 ≤ x.toInt) (ha : 1 ≤ a.toInt) (hy : 0 ≤ y.toInt) (hb : 1 ≤ b.toInt) (h : own_Z (val64 (own_s x a)) ≤ own_Z (val64 (own_s y b))) : own_Z (val64 (own_f x a)) ≤ own_Z (val64 (own_f y b)) := by
  obtain ⟨f1, r1⟩ := own_fF x a hx ha
  obtain ⟨f2, r2⟩ := own_fF y b hy hb
  refine own_R_mono r1 r2 f1.2 f2.2 ?_
  refine Int.mul_le_mul_of_nonneg_right (Int.mul_le_mul_of_nonneg_left h ?_) (by omega)
  rw [own_KZ]; have := own_w_pos; omega
theorem own_s_of_q {x a y b : Int32} (hx : 0 ≤ x.toInt) (ha : 1 ≤ a.toInt) (hy : 0 ≤ y.toInt) (hb : 1 ≤ b.toInt) (h : own_Z (val64 (own_q x a)) ≤ own_Z (val64 (own_q y b))) : own_Z (val64 (own_s x a)) ≤ own_Z (val64 (own_s y b)) := by
  obtain ⟨f1, r1, -⟩ := own_sF x a hx ha
  obtain ⟨f2, r2, -⟩ := own_sF y b hy hb
  refine own_R_mono r1 r2 f1.2 f2.2 ?_
  omega
theorem own_mono {x y a b : Int32} (hx : 0 ≤ x.toInt) (hxy : x.toInt ≤ y.toInt) (hb : 1 ≤ b.toInt) (hba : b.toInt ≤ a.toInt) : own_Z (val64 (own_f x a)) ≤ own_Z (val64 (own_f y b)) := by
  have hy : 0 ≤ y.toInt := by omega
  have ha : 1 ≤ a.toInt := by omega
  refine own_f_of_s hx ha hy hb (own_s_of_q hx ha hy hb ?_)
  obtain ⟨f1, r1, -⟩ := own_qF x a hx ha
  obtain ⟨f2, r2, -⟩ := own_qF y b hy hb
  refine own_R_mono r1 r2 f1.2 f2.2 ?_
  have pt := own_t_pos
  rw [(own_iP ha).2, (own_iP hb).2]
  have pp : (0 : Int) ≤ (own_P : Int) := by omega
  have c1 : 3 * x.toInt * own_t * (own_P : Int) ≤ 3 * y.toInt * own_t * (own_P : Int) := Int.mul_le_mul_of_nonneg_right (Int.mul_le_mul_of_nonneg_right (by omega) (by omega)) pp
  have c2 : b.toInt * (own_P : Int) ≤ a.toInt * (own_P : Int) := Int.mul_le_mul_of_nonneg_right hba pp
  have n1 : 0 ≤ b.toInt * (own_P : Int) := Int.mul_nonneg (by omega) pp
  have n2 : 0 ≤ 3 * y.toInt * own_t * (own_P : Int) := Int.mul_nonneg (Int.mul_nonneg (by omega) (by omega)) pp
  exact Int.le_trans (Int.mul_le_mul_of_nonneg_right c1 n1) (Int.mul_le_mul_of_nonneg_left c2 n2)
theorem own_low {x a : Int32} (hx : 0 ≤ x.toInt) (ha : 1 ≤ a.toInt) : own_Z (val64 own_L) ≤ own_Z (val64 (own_f x a)) := by
  obtain ⟨f1, r1⟩ := own_fF x a hx ha
  obtain ⟨-, -, s0, -⟩ := own_sF x a hx ha
  refine own_R_ge r1 own_LF.1 own_LF.ne ?_
  have pw := own_w_pos
  rw [own_LZ, own_KZ, own_tP]
  have e : 5404319552844595 * own_w * (4 * own_t) = 21617278211378380 * own_w * own_t := by
    rw [← Int.mul_assoc, show 5404319552844595 * own_w * 4 = 21617278211378380 * own_w by omega]
  rw [e]
  exact Int.mul_le_mul_of_nonneg_left s0 (by omega)
/-- the anchor -/
theorem own_anchor {n a : Int32} (hn : 0 ≤ n.toInt ∧ n.toInt ≤ 1023) (ha : 1 ≤ a.toInt ∧ a.toInt ≤ 1048576) :
    own_Z (val64 (own_f (n * a) a)) = own_Z (val64 (FP.dmul own_K (FP.ddiv (FP.i2d ((3 : Int32) * n + (1 : Int32))) own_4))) ∧ own_F (val64 (FP.ddiv (FP.i2d ((3 : Int32) * n + (1 : Int32))) own_4)) ∧ own_R (own_Z (val64 own_K) * own_Z (val64 (FP.ddiv (FP.i2d ((3 : Int32) * n + (1 : Int32))) own_4))) own_P (val64 (FP.dmul own_K (FP.ddiv (FP.i2d ((3 : Int32) * n + (1 : Int32))) own_4))) := by
  have pt := own_t_pos
  have pp : (0 : Int) < (own_P : Int) := by have := own_P_pos; omega
  have en : (n * a).toInt = n.toInt * a.toInt := by
    have c := c_imul n a
    have r := rng32 (n * a)
    have b1 : 0 ≤ n.toInt * a.toInt := Int.mul_nonneg hn.1 (by omega)
    have b2 : n.toInt * a.toInt ≤ 1023 * 1048576 := Int.le_trans (Int.mul_le_mul_of_nonneg_right hn.2 (by omega)) (Int.mul_le_mul_of_nonneg_left ha.2 (by omega))
    generalize (n * a).toInt = u at *
    generalize n.toInt * a.toInt = v at *
    omega
  have e3 : ((3 : Int32) * n + (1 : Int32)).toInt = 3 * n.toInt + 1 := by
    have c := c_imul (3 : Int32) n
    have c' := c_iadd ((3 : Int32) * n) (1 : Int32)
    have r := rng32 ((3 : Int32) * n)
    have r' := rng32 ((3 : Int32) * n + (1 : Int32))
    have k3 : (3 : Int32).toInt = 3 := rfl
    have k1 : (1 : Int32).toInt = 1 := rfl
    rw [k3] at c
    rw [k1] at c'
    omega
  have hx : 0 ≤ (n * a).toInt := by rw [en]; exact Int.mul_nonneg hn.1 (by omega)
  have ha' : 1 ≤ a.toInt := ha.1
  -- the quotient
  obtain ⟨fq, rq, -, -⟩ := own_qF (n * a) a hx ha'
  obtain ⟨V, hV, hz⟩ := own_rep4 (i := 3 * n.toInt) (by omega)
  have hz' : own_Z V = 3 * n.toInt * own_t := hz
  have zq : own_Z (val64 (own_q (n * a) a)) = 3 * n.toInt * own_t := by
    rw [own_R_eq rq hV (by
      rw [(own_iP ha').2, hz', en]
      simp only [Int.mul_assoc, Int.mul_left_comm, Int.mul_comm]), hz']
  -- the sum
  obtain ⟨fs, rs, -, -⟩ := own_sF (n * a) a hx ha'
  obtain ⟨V2, hV2, hz2⟩ := own_rep4 (i := 3 * n.toInt + 1) (by omega)
  have hz2' : own_Z V2 = (3 * n.toInt + 1) * own_t := hz2
  have zs : own_Z (val64 (own_s (n * a) a)) = (3 * n.toInt + 1) * own_t := by
    rw [own_R_eq rs hV2 (by rw [hz2', zq, Int.add_mul]; omega), hz2']
  -- the law's own quotient
  have p4 : 0 < own_Z (val64 own_4) := by rw [own_4Z]; have := own_w_pos; omega
  have hd := own_div (own_i2dF ((3 : Int32) * n + (1 : Int32))) own_4F p4
  rw [own_i2dZ, e3] at hd
  have n4 : ((own_Z (val64 own_4)).natAbs : Int) = 4 * (own_P : Int) := by rw [own_4Z, own_wP]; have := own_w_pos; omega
  have ed : (3 * n.toInt + 1) * (own_P : Int) * (own_P : Int) = own_Z V2 * ((own_Z (val64 own_4)).natAbs : Int) := by
    rw [n4, hz2', ← Int.mul_assoc]
    congr 1
    rw [own_tP, Int.mul_assoc (3 * n.toInt + 1) own_t 4, Int.mul_comm own_t 4]
  have zd := own_R_eq hd hV2 ed
  have p2 : 0 ≤ own_Z V2 := by rw [hz2']; exact Int.mul_nonneg (by omega) (by omega)
  have fd : own_F (val64 (FP.ddiv (FP.i2d ((3 : Int32) * n + (1 : Int32))) own_4)) := own_fin hd hV2 (by
    rw [ed, Int.neg_mul]
    have := Int.mul_nonneg p2 (show (0 : Int) ≤ ((own_Z (val64 own_4)).natAbs : Int) by omega)
    omega) (by rw [ed]; exact Int.le_refl _)
  have re := own_mul own_KF fd
  obtain ⟨ff, rf⟩ := own_fF (n * a) a hx ha'
  have same : own_Z (val64 (own_s (n * a) a)) = own_Z (val64 (FP.ddiv (FP.i2d ((3 : Int32) * n + (1 : Int32))) own_4)) := by rw [zs, zd, hz2']
  refine ⟨?_, fd, re⟩
  obtain ⟨gD, s1, g1, g2⟩ := rf
  obtain ⟨gD', s2, g3, g4⟩ := re
  have rf' : own_R (own_Z (val64 own_K) * own_Z (val64 (own_s (n * a) a))) own_P (val64 (own_f (n * a) a)) := ⟨gD, s1, g1, g2⟩
  have re' : own_R (own_Z (val64 own_K) * own_Z (val64 (FP.ddiv (FP.i2d ((3 : Int32) * n + (1 : Int32))) own_4))) own_P (val64 (FP.dmul own_K (FP.ddiv (FP.i2d ((3 : Int32) * n + (1 : Int32))) own_4))) := ⟨gD', s2, g3, g4⟩
  have l1 := own_R_le re' ff.1 ff.ne
  have fin2 : own_F (val64 (FP.dmul own_K (FP.ddiv (FP.i2d ((3 : Int32) * n + (1 : Int32))) own_4))) := by
    obtain ⟨W, hW, hw⟩ := own_rep4 (i := 2199023255552) (by decide)
    have hw' : own_Z W = 2199023255552 * own_t := hw
    obtain ⟨-, -, s0, s1'⟩ := own_sF (n * a) a hx ha'
    rw [same] at s0 s1'
    have k0 : 0 ≤ own_Z (val64 own_K) := by rw [own_KZ]; have := own_w_pos; omega
    have k1 : own_Z (val64 own_K) ≤ 2 * (own_P : Int) := by rw [own_KZ, own_wP]; have := own_w_pos; omega
    refine own_fin re' hW ?_ ?_
    · rw [hw', Int.neg_mul]
      have u1 := Int.mul_nonneg (show (0 : Int) ≤ 2199023255552 * own_t by omega) (show (0 : Int) ≤ (own_P : Int) by omega)
      have u2 := Int.mul_nonneg k0 (show (0 : Int) ≤ own_Z (val64 (FP.ddiv (FP.i2d ((3 : Int32) * n + (1 : Int32))) own_4)) by omega)
      omega
    · rw [hw']
      refine Int.le_trans (Int.mul_le_mul_of_nonneg_right k1 (by omega)) ?_
      refine Int.le_trans (Int.mul_le_mul_of_nonneg_left s1' (by omega)) ?_
      rw [Int.mul_comm (2 * (own_P : Int)), ← Int.mul_assoc]
      refine Int.mul_le_mul_of_nonneg_right ?_ (by omega)
      omega
  refine Int.le_antisymm (own_R_mono rf' re' ff.2 fin2.2 ?_) (own_R_mono re' rf' fin2.2 ff.2 ?_)
  · rw [same]; exact Int.le_refl _
  · rw [same]; exact Int.le_refl _
end OwnBm
def own_min (a b r : Int32) : Prop := r.toInt ≤ a.toInt ∧ r.toInt ≤ b.toInt ∧ (r = a ∨ r = b)
def own_max (a b r : Int32) : Prop := a.toInt ≤ r.toInt ∧ b.toInt ≤ r.toInt ∧ (r = a ∨ r = b)
theorem own_mm {a b r t : Int32} {k : Int} (h1 : own_min a b r) (h2 : own_max a b t) (ha : k ≤ a.toInt) (hb : k ≤ b.toInt) : k ≤ r.toInt ∧ r.toInt ≤ t.toInt ∧ k ≤ t.toInt := by
  obtain ⟨x1, x2, x3⟩ := h1
  obtain ⟨y1, y2, y3⟩ := h2
  rcases x3 with rfl | rfl <;> omega
theorem own_m0 (p : Int32) : 0 ≤ (p &&& (2147483647 : Int32)).toInt := (c_and p (2147483647 : Int32) (by decide)).1
theorem own_m1 (p : Int32) : 1 ≤ ((p &&& (1073741823 : Int32)) + (1 : Int32)).toInt := by
  have b := c_and p (1073741823 : Int32) (by decide)
  have c := c_iadd (p &&& (1073741823 : Int32)) (1 : Int32)
  have r := rng32 ((p &&& (1073741823 : Int32)) + (1 : Int32))
  have e : (1073741823 : Int32).toInt = 1073741823 := rfl
  have e1 : (1 : Int32).toInt = 1 := rfl
  omega
theorem own_n (p : Int32) : 0 ≤ (p &&& (1023 : Int32)).toInt ∧ (p &&& (1023 : Int32)).toInt ≤ 1023 := c_and p (1023 : Int32) (by decide)
theorem own_a (p : Int32) : 1 ≤ ((p &&& (1048575 : Int32)) + (1 : Int32)).toInt ∧ ((p &&& (1048575 : Int32)) + (1 : Int32)).toInt ≤ 1048576 := by
  have b := c_and p (1048575 : Int32) (by decide)
  have c := c_iadd (p &&& (1048575 : Int32)) (1 : Int32)
  have r := rng32 ((p &&& (1048575 : Int32)) + (1 : Int32))
  have e : (1048575 : Int32).toInt = 1048575 := rfl
  have e1 : (1 : Int32).toInt = 1 := rfl
  omega
theorem own_na {n a : Int32} (hn : 0 ≤ n.toInt ∧ n.toInt ≤ 1023) (ha : 1 ≤ a.toInt ∧ a.toInt ≤ 1048576) : 0 ≤ (n * a).toInt := by
  have c := c_imul n a
  have r := rng32 (n * a)
  have b1 : 0 ≤ n.toInt * a.toInt := Int.mul_nonneg hn.1 (by omega)
  have b2 : n.toInt * a.toInt ≤ 1023 * 1048576 := Int.le_trans (Int.mul_le_mul_of_nonneg_right hn.2 (by omega)) (Int.mul_le_mul_of_nonneg_left ha.2 (by omega))
  generalize (n * a).toInt = u at *
  generalize n.toInt * a.toInt = v at *
  omega
theorem d1_0 : decode jdk_29_method_69_code 0 = .ok (.iload_n 0, 1) := by decide +kernel
theorem d1_1 : decode jdk_29_method_69_code 1 = .ok (.iload_n 1, 1) := by decide +kernel
theorem d1_2 : decode jdk_29_method_69_code 2 = .ok (.if_icmp .gt 7, 3) := by decide +kernel
theorem d1_9 : decode jdk_29_method_69_code 9 = .ok (.iload_n 1, 1) := by decide +kernel
theorem d1_10 : decode jdk_29_method_69_code 10 = .ok (.ireturn, 1) := by decide +kernel
theorem d1_5 : decode jdk_29_method_69_code 5 = .ok (.iload_n 0, 1) := by decide +kernel
theorem d1_6 : decode jdk_29_method_69_code 6 = .ok (.goto 4, 3) := by decide +kernel
theorem ef_min (m : MethodId) (q1 : Int32) (q2 : Int32) : entryFrame m #[(.int q1), (.int q2)] 2 = mkF m 0 #[.val (.int q1), .val (.int q2)] [] := by first | (simp [entryFrame, mkF, argsToLocals, Value.category]; done) | rfl
def Qmin (Z : State) (q1 : Int32) (q2 : Int32) (h0 : Heap) (n0 : Nat) (v : Option Value) (h : Heap) (L : List Loc) : Prop := ∃ (rr : Int32), Fr n0 L ∧ h = h0 ∧ own_min q1 q2 rr ∧ (v = some (.int rr))
set_option maxRecDepth 65536 in
set_option maxHeartbeats 40000000 in
theorem rmmin (l : Launch) (Z : State) (a0 : Array Value) (hw : ∀ d ∈ tables_1, d.before a0 Z = true) (ws : List Jvm.Cond) (q1 : Int32) (q2 : Int32) (h0 : Heap) (n0 : Nat) (Z0 : n0 ≤ h0.size)  :
    MetFree l (⟨"java/lang/Math", "min", "(II)I"⟩ : MethodName) (head1 (Jvm.Cond.code (⟨"java/lang/Math", "min", "(II)I"⟩ : MethodName) jdk_29_method_69_code 2 (some .int) :: ws) ({ frames := 0, cells := 0, slots := 0, locals := 0 } : Room)) (fun a U => a = #[(.int q1), (.int q2)] ∧ Z.Warmed39 U.vm ∧ U.heap = h0) (fun _ _ _ _ _ => True) (fun _ U o U' => ∃ v L, o = .returned v ∧ Qmin Z q1 q2 h0 n0 v U'.heap L ∧ FrameEnd U o U' L ({ frames := 0, cells := 0, slots := 0, locals := 0 } : Room).cells ({ frames := 0, cells := 0, slots := 0, locals := 0 } : Room).slots) := by
  refine MetFree.of_bodySF (Jvm.Free.JP.mathPlain rfl (by decide +kernel)) hisR ?_
  intro p e s m args below meth c s₁ Bd hml0 hP hK
  obtain ⟨rfl, hZ, hh⟩ := hP
  have hx := Bd.exec
  have hby := Bd.bytes
  have hml : c.maxLocals = 2 := hml0
  have hown : s.vm.findClass "java/lang/Math" = some m.cls := findClass_of_methodNamed Bd.named
  have hnm := (name_of_methodNamed Bd.named Bd.method).1
  have X0 : Stand p l e ({ frames := 0, cells := 0, slots := 0, locals := 0 } : Room) s m #[(.int q1), (.int q2)] below meth c s₁ [] 0 0 := Stand.of_body Bd
  have e0 : s₁.heap = h0 := by rw [← hh, Bd.state]; rfl
  have N0 := Fr.nil n0
  have pre0 : ∀ t, Steps p.tables e below (s₁.setTop (mkF m 0 #[.val (.int q1), .val (.int q2)] [])) t → Steps p.tables e below (s₁.setTop (entryFrame m #[(.int q1), (.int q2)] 2)) t := fun t k => castTop (ef_min m q1 q2) k
  have pre1 : ∀ t, Steps p.tables e below (s₁.setTop (mkF m 2 #[.val (.int q1), .val (.int q2)] [(.int q2), (.int q1)])) t → Steps p.tables e below (s₁.setTop (entryFrame m #[(.int q1), (.int q2)] 2)) t := fun t kt => pre0 t (by
    show Steps p.tables e below (s₁.setTop (mkF m 0 #[.val (.int q1), .val (.int q2)] [])) _
    refine XS.iloadN X0.here hx rfl (hb hby d1_0) rfl ?_
    show Steps p.tables e below (s₁.setTop (mkF m 1 #[.val (.int q1), .val (.int q2)] [(.int q1)])) _
    refine XS.iloadN X0.here hx rfl (hb hby d1_1) rfl ?_
    exact kt)
  by_cases hc2 : q2 < q1
  · skip
    obtain ⟨fs, hr, hrun, hended, hW, hsame⟩ := X0.leave (v := (some (.int q2))) (fun h => by rw [Bd.returns] at h; cases h)
    refine ⟨_, _, pre1 _ ?_, hrun, hended, _, _, rfl, ?_, ⟨_, rfl⟩, hW, hsame.mono (by decide) (by decide)⟩
    · show Steps p.tables e below (s₁.setTop (mkF m 2 #[.val (.int q1), .val (.int q2)] [(.int q2), (.int q1)])) _
      refine XS.icmpYes X0.here hx rfl (pc0 := 2) (pc' := 9) rfl (hb hby d1_2) rfl (tlt hc2).2.2.1 (by decide) (by decide) ?_
      show Steps p.tables e below (s₁.setTop (mkF m 9 #[.val (.int q1), .val (.int q2)] [])) _
      refine XS.iloadN X0.here hx rfl (hb hby d1_9) rfl ?_
      show Steps p.tables e below (s₁.setTop (mkF m 10 #[.val (.int q1), .val (.int q2)] [(.int q2)])) _
      exact retOut X0 hx Bd.returns rfl (Or.inl ⟨rfl, Or.inl rfl, _, rfl⟩) (hb hby d1_10) hr
    · show Qmin Z q1 q2 h0 n0 _ s₁.heap _
      rw [e0]
      exact ⟨q2, N0, rfl, (by unfold own_min; have q := hc2; rw [Int32.lt_iff_toInt_lt] at q; refine ⟨?_, ?_, Or.inr rfl⟩ <;> omega), rfl⟩
  · skip
    obtain ⟨fs, hr, hrun, hended, hW, hsame⟩ := X0.leave (v := (some (.int q1))) (fun h => by rw [Bd.returns] at h; cases h)
    refine ⟨_, _, pre1 _ ?_, hrun, hended, _, _, rfl, ?_, ⟨_, rfl⟩, hW, hsame.mono (by decide) (by decide)⟩
    · show Steps p.tables e below (s₁.setTop (mkF m 2 #[.val (.int q1), .val (.int q2)] [(.int q2), (.int q1)])) _
      refine XS.icmpNo X0.here hx rfl (hb hby d1_2) rfl (flt hc2).2.2.1 ?_
      show Steps p.tables e below (s₁.setTop (mkF m 5 #[.val (.int q1), .val (.int q2)] [])) _
      refine XS.iloadN X0.here hx rfl (hb hby d1_5) rfl ?_
      show Steps p.tables e below (s₁.setTop (mkF m 6 #[.val (.int q1), .val (.int q2)] [(.int q1)])) _
      refine XS.goto X0.here hx rfl (pc0 := 6) (pc' := 10) rfl (hb hby d1_6) (by decide) (by decide) ?_
      show Steps p.tables e below (s₁.setTop (mkF m 10 #[.val (.int q1), .val (.int q2)] [(.int q1)])) _
      exact retOut X0 hx Bd.returns rfl (Or.inl ⟨rfl, Or.inl rfl, _, rfl⟩) (hb hby d1_10) hr
    · show Qmin Z q1 q2 h0 n0 _ s₁.heap _
      rw [e0]
      exact ⟨q1, N0, rfl, (by unfold own_min; have q := hc2; rw [Int32.lt_iff_toInt_lt] at q; refine ⟨?_, ?_, Or.inl rfl⟩ <;> omega), rfl⟩
theorem d2_0 : decode jdk_29_method_65_code 0 = .ok (.iload_n 0, 1) := by decide +kernel
theorem d2_1 : decode jdk_29_method_65_code 1 = .ok (.iload_n 1, 1) := by decide +kernel
theorem d2_2 : decode jdk_29_method_65_code 2 = .ok (.if_icmp .lt 7, 3) := by decide +kernel
theorem d2_9 : decode jdk_29_method_65_code 9 = .ok (.iload_n 1, 1) := by decide +kernel
theorem d2_10 : decode jdk_29_method_65_code 10 = .ok (.ireturn, 1) := by decide +kernel
theorem d2_5 : decode jdk_29_method_65_code 5 = .ok (.iload_n 0, 1) := by decide +kernel
theorem d2_6 : decode jdk_29_method_65_code 6 = .ok (.goto 4, 3) := by decide +kernel
theorem ef_max (m : MethodId) (q1 : Int32) (q2 : Int32) : entryFrame m #[(.int q1), (.int q2)] 2 = mkF m 0 #[.val (.int q1), .val (.int q2)] [] := by first | (simp [entryFrame, mkF, argsToLocals, Value.category]; done) | rfl
def Qmax (Z : State) (q1 : Int32) (q2 : Int32) (h0 : Heap) (n0 : Nat) (v : Option Value) (h : Heap) (L : List Loc) : Prop := ∃ (rr : Int32), Fr n0 L ∧ h = h0 ∧ own_max q1 q2 rr ∧ (v = some (.int rr))
set_option maxRecDepth 65536 in
set_option maxHeartbeats 40000000 in
theorem rmmax (l : Launch) (Z : State) (a0 : Array Value) (hw : ∀ d ∈ tables_1, d.before a0 Z = true) (ws : List Jvm.Cond) (q1 : Int32) (q2 : Int32) (h0 : Heap) (n0 : Nat) (Z0 : n0 ≤ h0.size)  :
    MetFree l (⟨"java/lang/Math", "max", "(II)I"⟩ : MethodName) (head1 (Jvm.Cond.code (⟨"java/lang/Math", "max", "(II)I"⟩ : MethodName) jdk_29_method_65_code 2 (some .int) :: ws) ({ frames := 0, cells := 0, slots := 0, locals := 0 } : Room)) (fun a U => a = #[(.int q1), (.int q2)] ∧ Z.Warmed39 U.vm ∧ U.heap = h0) (fun _ _ _ _ _ => True) (fun _ U o U' => ∃ v L, o = .returned v ∧ Qmax Z q1 q2 h0 n0 v U'.heap L ∧ FrameEnd U o U' L ({ frames := 0, cells := 0, slots := 0, locals := 0 } : Room).cells ({ frames := 0, cells := 0, slots := 0, locals := 0 } : Room).slots) := by
  refine MetFree.of_bodySF (Jvm.Free.JP.mathPlain rfl (by decide +kernel)) hisR ?_
  intro p e s m args below meth c s₁ Bd hml0 hP hK
  obtain ⟨rfl, hZ, hh⟩ := hP
  have hx := Bd.exec
  have hby := Bd.bytes
  have hml : c.maxLocals = 2 := hml0
  have hown : s.vm.findClass "java/lang/Math" = some m.cls := findClass_of_methodNamed Bd.named
  have hnm := (name_of_methodNamed Bd.named Bd.method).1
  have X0 : Stand p l e ({ frames := 0, cells := 0, slots := 0, locals := 0 } : Room) s m #[(.int q1), (.int q2)] below meth c s₁ [] 0 0 := Stand.of_body Bd
  have e0 : s₁.heap = h0 := by rw [← hh, Bd.state]; rfl
  have N0 := Fr.nil n0
  have pre0 : ∀ t, Steps p.tables e below (s₁.setTop (mkF m 0 #[.val (.int q1), .val (.int q2)] [])) t → Steps p.tables e below (s₁.setTop (entryFrame m #[(.int q1), (.int q2)] 2)) t := fun t k => castTop (ef_max m q1 q2) k
  have pre1 : ∀ t, Steps p.tables e below (s₁.setTop (mkF m 2 #[.val (.int q1), .val (.int q2)] [(.int q2), (.int q1)])) t → Steps p.tables e below (s₁.setTop (entryFrame m #[(.int q1), (.int q2)] 2)) t := fun t kt => pre0 t (by
    show Steps p.tables e below (s₁.setTop (mkF m 0 #[.val (.int q1), .val (.int q2)] [])) _
    refine XS.iloadN X0.here hx rfl (hb hby d2_0) rfl ?_
    show Steps p.tables e below (s₁.setTop (mkF m 1 #[.val (.int q1), .val (.int q2)] [(.int q1)])) _
    refine XS.iloadN X0.here hx rfl (hb hby d2_1) rfl ?_
    exact kt)
  by_cases hc2 : q1 < q2
  · skip
    obtain ⟨fs, hr, hrun, hended, hW, hsame⟩ := X0.leave (v := (some (.int q2))) (fun h => by rw [Bd.returns] at h; cases h)
    refine ⟨_, _, pre1 _ ?_, hrun, hended, _, _, rfl, ?_, ⟨_, rfl⟩, hW, hsame.mono (by decide) (by decide)⟩
    · show Steps p.tables e below (s₁.setTop (mkF m 2 #[.val (.int q1), .val (.int q2)] [(.int q2), (.int q1)])) _
      refine XS.icmpYes X0.here hx rfl (pc0 := 2) (pc' := 9) rfl (hb hby d2_2) rfl (tlt hc2).1 (by decide) (by decide) ?_
      show Steps p.tables e below (s₁.setTop (mkF m 9 #[.val (.int q1), .val (.int q2)] [])) _
      refine XS.iloadN X0.here hx rfl (hb hby d2_9) rfl ?_
      show Steps p.tables e below (s₁.setTop (mkF m 10 #[.val (.int q1), .val (.int q2)] [(.int q2)])) _
      exact retOut X0 hx Bd.returns rfl (Or.inl ⟨rfl, Or.inl rfl, _, rfl⟩) (hb hby d2_10) hr
    · show Qmax Z q1 q2 h0 n0 _ s₁.heap _
      rw [e0]
      exact ⟨q2, N0, rfl, (by unfold own_max; have q := hc2; rw [Int32.lt_iff_toInt_lt] at q; refine ⟨?_, ?_, Or.inr rfl⟩ <;> omega), rfl⟩
  · skip
    obtain ⟨fs, hr, hrun, hended, hW, hsame⟩ := X0.leave (v := (some (.int q1))) (fun h => by rw [Bd.returns] at h; cases h)
    refine ⟨_, _, pre1 _ ?_, hrun, hended, _, _, rfl, ?_, ⟨_, rfl⟩, hW, hsame.mono (by decide) (by decide)⟩
    · show Steps p.tables e below (s₁.setTop (mkF m 2 #[.val (.int q1), .val (.int q2)] [(.int q2), (.int q1)])) _
      refine XS.icmpNo X0.here hx rfl (hb hby d2_2) rfl (flt hc2).1 ?_
      show Steps p.tables e below (s₁.setTop (mkF m 5 #[.val (.int q1), .val (.int q2)] [])) _
      refine XS.iloadN X0.here hx rfl (hb hby d2_5) rfl ?_
      show Steps p.tables e below (s₁.setTop (mkF m 6 #[.val (.int q1), .val (.int q2)] [(.int q1)])) _
      refine XS.goto X0.here hx rfl (pc0 := 6) (pc' := 10) rfl (hb hby d2_6) (by decide) (by decide) ?_
      show Steps p.tables e below (s₁.setTop (mkF m 10 #[.val (.int q1), .val (.int q2)] [(.int q1)])) _
      exact retOut X0 hx Bd.returns rfl (Or.inl ⟨rfl, Or.inl rfl, _, rfl⟩) (hb hby d2_10) hr
    · show Qmax Z q1 q2 h0 n0 _ s₁.heap _
      rw [e0]
      exact ⟨q1, N0, rfl, (by unfold own_max; have q := hc2; rw [Int32.lt_iff_toInt_lt] at q; refine ⟨?_, ?_, Or.inl rfl⟩ <;> omega), rfl⟩
theorem own_pn_0 : plainName "com/example/multilingual_query_search/multilingualquerysearch/scoring/Bm25" = true := by first | (simp [plainName, overriddenIn]; done) | decide +kernel
theorem d3_0 : decode prog_21_method_3_code 0 = .ok (.ldc2_w 17, 3) := by decide +kernel
theorem d3_3 : decode prog_21_method_3_code 3 = .ok (.ldc2_w 19, 3) := by decide +kernel
theorem d3_6 : decode prog_21_method_3_code 6 = .ok (.ldc2_w 21, 3) := by decide +kernel
theorem d3_9 : decode prog_21_method_3_code 9 = .ok (.dload_n 0, 1) := by decide +kernel
theorem d3_10 : decode prog_21_method_3_code 10 = .ok (.dmul, 1) := by decide +kernel
theorem d3_11 : decode prog_21_method_3_code 11 = .ok (.dload_n 2, 1) := by decide +kernel
theorem d3_12 : decode prog_21_method_3_code 12 = .ok (.ddiv, 1) := by decide +kernel
theorem d3_13 : decode prog_21_method_3_code 13 = .ok (.dadd, 1) := by decide +kernel
theorem d3_14 : decode prog_21_method_3_code 14 = .ok (.dmul, 1) := by decide +kernel
theorem d3_15 : decode prog_21_method_3_code 15 = .ok (.dreturn, 1) := by decide +kernel
theorem ef_len (m : MethodId) (d1 : UInt64) (d2 : UInt64) : entryFrame m #[(.double d1), (.double d2)] 4 = mkF m 0 #[.val (.double d1), .second, .val (.double d2), .second] [] := by first | (simp [entryFrame, mkF, argsToLocals, Value.category]; done) | rfl
def Qlen (Z : State) (d1 : UInt64) (d2 : UInt64) (h0 : Heap) (n0 : Nat) (v : Option Value) (h : Heap) (L : List Loc) : Prop := Fr n0 L ∧ h = h0 ∧ (v = some (.double (FP.dmul (4608083138725491507 : UInt64) (FP.dadd (4598175219545276416 : UInt64) (FP.ddiv (FP.dmul (4604930618986332160 : UInt64) d1) d2)))))
set_option maxRecDepth 65536 in
set_option maxHeartbeats 40000000 in
theorem rmLen (l : Launch) (Z : State) (a0 : Array Value) (hw : ∀ d ∈ tables_1, d.before a0 Z = true) (ws : List Jvm.Cond) (d1 : UInt64) (d2 : UInt64) (h0 : Heap) (n0 : Nat) (Z0 : n0 ≤ h0.size) (hn1 : Jvm.Free.Fl.NoNaN64 (FP.dmul (4604930618986332160 : UInt64) d1)) (hn2 : Jvm.Free.Fl.NoNaN64 (FP.ddiv (FP.dmul (4604930618986332160 : UInt64) d1) d2)) (hn3 : Jvm.Free.Fl.NoNaN64 (FP.dadd (4598175219545276416 : UInt64) (FP.ddiv (FP.dmul (4604930618986332160 : UInt64) d1) d2))) (hn4 : Jvm.Free.Fl.NoNaN64 (FP.dmul (4608083138725491507 : UInt64) (FP.dadd (4598175219545276416 : UInt64) (FP.ddiv (FP.dmul (4604930618986332160 : UInt64) d1) d2)))) :
    MetFree l (⟨"com/example/multilingual_query_search/multilingualquerysearch/scoring/Bm25", "lengthNormalisation", "(DD)D"⟩ : MethodName) (head1 (Jvm.Cond.code (⟨"com/example/multilingual_query_search/multilingualquerysearch/scoring/Bm25", "lengthNormalisation", "(DD)D"⟩ : MethodName) prog_21_method_3_code 4 (some .double) :: ws) ({ frames := 0, cells := 0, slots := 0, locals := 0 } : Room)) (fun a U => a = #[(.double d1), (.double d2)] ∧ Z.Warmed39 U.vm ∧ U.heap = h0) (fun _ _ _ _ _ => True) (fun _ U o U' => ∃ v L, o = .returned v ∧ Qlen Z d1 d2 h0 n0 v U'.heap L ∧ FrameEnd U o U' L ({ frames := 0, cells := 0, slots := 0, locals := 0 } : Room).cells ({ frames := 0, cells := 0, slots := 0, locals := 0 } : Room).slots) := by
  refine MetFree.of_bodySF (plainFor_of_name own_pn_0) hisR ?_
  intro p e s m args below meth c s₁ Bd hml0 hP hK
  obtain ⟨rfl, hZ, hh⟩ := hP
  have hx := Bd.exec
  have hby := Bd.bytes
  have hml : c.maxLocals = 4 := hml0
  have hown : s.vm.findClass "com/example/multilingual_query_search/multilingualquerysearch/scoring/Bm25" = some m.cls := findClass_of_methodNamed Bd.named
  have hnm := (name_of_methodNamed Bd.named Bd.method).1
  have X0 : Stand p l e ({ frames := 0, cells := 0, slots := 0, locals := 0 } : Room) s m #[(.double d1), (.double d2)] below meth c s₁ [] 0 0 := Stand.of_body Bd
  have e0 : s₁.heap = h0 := by rw [← hh, Bd.state]; rfl
  have N0 := Fr.nil n0
  have pre0 : ∀ t, Steps p.tables e below (s₁.setTop (mkF m 0 #[.val (.double d1), .second, .val (.double d2), .second] [])) t → Steps p.tables e below (s₁.setTop (entryFrame m #[(.double d1), (.double d2)] 4)) t := fun t k => castTop (ef_len m d1 d2) k
  obtain ⟨fs, hr, hrun, hended, hW, hsame⟩ := X0.leave (v := (some (.double (FP.dmul (4608083138725491507 : UInt64) (FP.dadd (4598175219545276416 : UInt64) (FP.ddiv (FP.dmul (4604930618986332160 : UInt64) d1) d2)))))) (fun h => by rw [Bd.returns] at h; cases h)
  refine ⟨_, _, pre0 _ ?_, hrun, hended, _, _, rfl, ?_, ⟨_, rfl⟩, hW, hsame.mono (by decide) (by decide)⟩
  · show Steps p.tables e below (s₁.setTop (mkF m 0 #[.val (.double d1), .second, .val (.double d2), .second] [])) _
    refine X0.ldc2DoubleC hx hown (mvT hZ (own_k hw 13 rfl)) (g := (mkF m 0 #[.val (.double d1), .second, .val (.double d2), .second] [])) rfl (hb hby d3_0) _ ?_
    show Steps p.tables e below (s₁.setTop (mkF m 3 #[.val (.double d1), .second, .val (.double d2), .second] [(.double (4608083138725491507 : UInt64))])) _
    refine X0.ldc2DoubleC hx hown (mvT hZ (own_k hw 14 rfl)) (g := (mkF m 3 #[.val (.double d1), .second, .val (.double d2), .second] [(.double (4608083138725491507 : UInt64))])) rfl (hb hby d3_3) _ ?_
    show Steps p.tables e below (s₁.setTop (mkF m 6 #[.val (.double d1), .second, .val (.double d2), .second] [(.double (4598175219545276416 : UInt64)), (.double (4608083138725491507 : UInt64))])) _
    refine X0.ldc2DoubleC hx hown (mvT hZ (own_k hw 15 rfl)) (g := (mkF m 6 #[.val (.double d1), .second, .val (.double d2), .second] [(.double (4598175219545276416 : UInt64)), (.double (4608083138725491507 : UInt64))])) rfl (hb hby d3_6) _ ?_
    show Steps p.tables e below (s₁.setTop (mkF m 9 #[.val (.double d1), .second, .val (.double d2), .second] [(.double (4604930618986332160 : UInt64)), (.double (4598175219545276416 : UInt64)), (.double (4608083138725491507 : UInt64))])) _
    refine XS.dloadN X0.here hx rfl (hb hby d3_9) rfl ?_
    show Steps p.tables e below (s₁.setTop (mkF m 10 #[.val (.double d1), .second, .val (.double d2), .second] [(.double d1), (.double (4604930618986332160 : UInt64)), (.double (4598175219545276416 : UInt64)), (.double (4608083138725491507 : UInt64))])) _
    refine XS.dmulS X0.here hx rfl (hb hby d3_10) rfl hn1 (v := (FP.dmul (4604930618986332160 : UInt64) d1)) rfl ?_
    show Steps p.tables e below (s₁.setTop (mkF m 11 #[.val (.double d1), .second, .val (.double d2), .second] [(.double (FP.dmul (4604930618986332160 : UInt64) d1)), (.double (4598175219545276416 : UInt64)), (.double (4608083138725491507 : UInt64))])) _
    refine XS.dloadN X0.here hx rfl (hb hby d3_11) rfl ?_
    show Steps p.tables e below (s₁.setTop (mkF m 12 #[.val (.double d1), .second, .val (.double d2), .second] [(.double d2), (.double (FP.dmul (4604930618986332160 : UInt64) d1)), (.double (4598175219545276416 : UInt64)), (.double (4608083138725491507 : UInt64))])) _
    refine XS.ddivS X0.here hx rfl (hb hby d3_12) rfl hn2 (v := (FP.ddiv (FP.dmul (4604930618986332160 : UInt64) d1) d2)) rfl ?_
    show Steps p.tables e below (s₁.setTop (mkF m 13 #[.val (.double d1), .second, .val (.double d2), .second] [(.double (FP.ddiv (FP.dmul (4604930618986332160 : UInt64) d1) d2)), (.double (4598175219545276416 : UInt64)), (.double (4608083138725491507 : UInt64))])) _
    refine XS.daddS X0.here hx rfl (hb hby d3_13) rfl hn3 (v := (FP.dadd (4598175219545276416 : UInt64) (FP.ddiv (FP.dmul (4604930618986332160 : UInt64) d1) d2))) rfl ?_
    show Steps p.tables e below (s₁.setTop (mkF m 14 #[.val (.double d1), .second, .val (.double d2), .second] [(.double (FP.dadd (4598175219545276416 : UInt64) (FP.ddiv (FP.dmul (4604930618986332160 : UInt64) d1) d2))), (.double (4608083138725491507 : UInt64))])) _
    refine XS.dmulS X0.here hx rfl (hb hby d3_14) rfl hn4 (v := (FP.dmul (4608083138725491507 : UInt64) (FP.dadd (4598175219545276416 : UInt64) (FP.ddiv (FP.dmul (4604930618986332160 : UInt64) d1) d2)))) rfl ?_
    show Steps p.tables e below (s₁.setTop (mkF m 15 #[.val (.double d1), .second, .val (.double d2), .second] [(.double (FP.dmul (4608083138725491507 : UInt64) (FP.dadd (4598175219545276416 : UInt64) (FP.ddiv (FP.dmul (4604930618986332160 : UInt64) d1) d2))))])) _
    exact retOut X0 hx Bd.returns rfl (Or.inr (Or.inr (Or.inl ⟨rfl, rfl, _, rfl⟩))) (hb hby d3_15) hr
  · show Qlen Z d1 d2 h0 n0 _ s₁.heap _
    rw [e0]
    exact ⟨N0, rfl, rfl⟩
theorem own_pn_1 : plainName "com/example/multilingual_query_search/multilingualquerysearch/scoring/Bm25LengthNormalisationPinLaw" = true := by first | (simp [plainName, overriddenIn]; done) | decide +kernel
theorem own_pd_0 : parseMethodDescriptor "(II)I" = some ⟨[.int, .int], some .int⟩ := by decide +kernel
theorem own_pd_1 : parseMethodDescriptor "(DD)D" = some ⟨[.double, .double], some .double⟩ := by decide +kernel
theorem ef_0 (m : MethodId) (p0 : Int32) (p1 : Int32) (p2 : Int32) (p3 : Int32) (p4 : Int32) (p5 : Int32) : entryFrame m #[(.int p0), (.int p1), (.int p2), (.int p3), (.int p4), (.int p5)] maxLocals = mkF m 0 #[.val (.int p0), .val (.int p1), .val (.int p2), .val (.int p3), .val (.int p4), .val (.int p5), .unset, .unset, .unset, .unset, .unset, .unset, .unset, .unset, .unset, .unset, .unset, .unset, .unset, .unset, .unset, .unset, .unset, .unset, .unset, .unset, .unset, .unset, .unset, .unset] [] := by first | (simp [entryFrame, mkF, argsToLocals, Value.category, maxLocals]; done) | rfl
def Q0 (Z : State) (p0 : Int32) (p1 : Int32) (p2 : Int32) (p3 : Int32) (p4 : Int32) (p5 : Int32) (h0 : Heap) (n0 : Nat) (v : Option Value) (h : Heap) (L : List Loc) : Prop := Fr n0 L ∧ v = some (.int (1 : Int32))
set_option maxRecDepth 65536 in
set_option maxHeartbeats 40000000 in
theorem rm0 (l : Launch) (Z : State) (a0 : Array Value) (hw : ∀ d ∈ tables_1, d.before a0 Z = true) (ws : List Jvm.Cond) (p0 : Int32) (p1 : Int32) (p2 : Int32) (p3 : Int32) (p4 : Int32) (p5 : Int32) (h0 : Heap) (n0 : Nat) (Z0 : n0 ≤ h0.size)  :
    MetFree l x (head1 (Jvm.Cond.code x code maxLocals ret :: ws) room_1) (fun a U => a = #[(.int p0), (.int p1), (.int p2), (.int p3), (.int p4), (.int p5)] ∧ Z.Warmed39 U.vm ∧ U.heap = h0) (fun _ _ _ _ _ => True) (fun _ U o U' => ∃ v L, o = .returned v ∧ Q0 Z p0 p1 p2 p3 p4 p5 h0 n0 v U'.heap L ∧ FrameEnd U o U' L 0 0) := by
  refine MetFree.of_bodySF (plainFor_of_name own_pn_1) hisR ?_
  intro p e s m args below meth c s₁ Bd hml0 hP hK
  obtain ⟨rfl, hZ, hh⟩ := hP
  have hx := Bd.exec
  have hby := Bd.bytes
  have hml : c.maxLocals = 30 := hml0
  have hown : s.vm.findClass "com/example/multilingual_query_search/multilingualquerysearch/scoring/Bm25LengthNormalisationPinLaw" = some m.cls := findClass_of_methodNamed Bd.named
  have hnm := (name_of_methodNamed Bd.named Bd.method).1
  have X0 : Stand p l e room_1 s m #[(.int p0), (.int p1), (.int p2), (.int p3), (.int p4), (.int p5)] below meth c s₁ [] 0 0 := Stand.of_body Bd
  have e0 : s₁.heap = h0 := by rw [← hh, Bd.state]; rfl
  have N0 := Fr.nil n0
  have pre0 : ∀ t, Steps p.tables e below (s₁.setTop (mkF m 0 #[.val (.int p0), .val (.int p1), .val (.int p2), .val (.int p3), .val (.int p4), .val (.int p5), .unset, .unset, .unset, .unset, .unset, .unset, .unset, .unset, .unset, .unset, .unset, .unset, .unset, .unset, .unset, .unset, .unset, .unset, .unset, .unset, .unset, .unset, .unset, .unset] [])) t → Steps p.tables e below (s₁.setTop (entryFrame m #[(.int p0), (.int p1), (.int p2), (.int p3), (.int p4), (.int p5)] maxLocals)) t := fun t k => castTop (ef_0 m p0 p1 p2 p3 p4 p5) k
  obtain ⟨_, _, ⟨T1, L1, k1, n1⟩, -, X1, ⟨Lc1, hQ1, l1, y1, z1⟩, st1⟩ := Jvm.LawKit.callS X0 hx (y := (⟨"java/lang/Math", "min", "(II)I"⟩ : MethodName)) hown (mvT hZ (own_k hw 1 rfl)) (mvT hZ (own_k hw 2 rfl)) (mvT hZ (own_k hw 3 rfl)) (mvT hZ (own_k hw 4 rfl)) (by decide) (backOf (W := 0) (rmmin l Z a0 hw [] (p0 &&& (2147483647 : Int32)) (p1 &&& (2147483647 : Int32)) h0 n0 Z0 ) hZ (own_k hw 4 rfl) (own_k hw 3 rfl) (by decide) (by decide)) (g := (mkF m 16 #[.val (.int p0), .val (.int p1), .val (.int p2), .val (.int p3), .val (.int p4), .val (.int p5), .val (.int (p0 &&& (2147483647 : Int32))), .val (.int (p1 &&& (2147483647 : Int32))), .unset, .unset, .unset, .unset, .unset, .unset, .unset, .unset, .unset, .unset, .unset, .unset, .unset, .unset, .unset, .unset, .unset, .unset, .unset, .unset, .unset, .unset] [(.int (p1 &&& (2147483647 : Int32))), (.int (p0 &&& (2147483647 : Int32)))])) rfl (by rw [hml]; rfl) (argsL := [(.int (p0 &&& (2147483647 : Int32))), (.int (p1 &&& (2147483647 : Int32)))]) (rest := []) (lenOf own_pd_0 rfl) rfl (by show 2 * 0 + _ ≤ _; exact Nat.le_of_eq rfl) (hb hby at_16) (fun _ _ => ⟨rfl, e0, (by decide : 0 + 0 ≤ _), (by decide : 0 + 0 ≤ _)⟩)
  dsimp only [Pt.U, Pt.locs, Pt.cells, Pt.slots] at X1 l1 y1 z1 st1 hQ1
  subst l1 y1 z1
  obtain ⟨rr_1, Nq1, eh1, p1_0, hv1⟩ := hQ1
  have N1 := Fr.app N0 Nq1
  subst hv1
  obtain ⟨_, _, ⟨T2, L2, k2, n2⟩, -, X2, ⟨Lc2, hQ2, l2, y2, z2⟩, st2⟩ := Jvm.LawKit.callS X1 hx (y := (⟨"java/lang/Math", "max", "(II)I"⟩ : MethodName)) hown (mvT hZ (own_k hw 5 rfl)) (mvT hZ (own_k hw 6 rfl)) (mvT hZ (own_k hw 3 rfl)) (mvT hZ (own_k hw 7 rfl)) (by decide) (backOf (W := 0) (rmmax l Z a0 hw [] (p0 &&& (2147483647 : Int32)) (p1 &&& (2147483647 : Int32)) h0 n0 Z0 ) hZ (own_k hw 7 rfl) (own_k hw 3 rfl) (by decide) (by decide)) (g := (mkF m 25 #[.val (.int p0), .val (.int p1), .val (.int p2), .val (.int p3), .val (.int p4), .val (.int p5), .val (.int (p0 &&& (2147483647 : Int32))), .val (.int (p1 &&& (2147483647 : Int32))), .val (.int rr_1), .unset, .unset, .unset, .unset, .unset, .unset, .unset, .unset, .unset, .unset, .unset, .unset, .unset, .unset, .unset, .unset, .unset, .unset, .unset, .unset, .unset] [(.int (p1 &&& (2147483647 : Int32))), (.int (p0 &&& (2147483647 : Int32)))])) rfl (by rw [hml]; rfl) (argsL := [(.int (p0 &&& (2147483647 : Int32))), (.int (p1 &&& (2147483647 : Int32)))]) (rest := []) (lenOf own_pd_0 rfl) rfl (by show 2 * 0 + _ ≤ _; exact Nat.le_of_eq rfl) (hb hby at_25) (fun _ _ => ⟨rfl, eh1, (by decide : 0 + 0 ≤ _), (by decide : 0 + 0 ≤ _)⟩)
  dsimp only [Pt.U, Pt.locs, Pt.cells, Pt.slots] at X2 l2 y2 z2 st2 hQ2
  subst l2 y2 z2
  obtain ⟨rr_2, Nq2, eh2, p2_0, hv2⟩ := hQ2
  have N2 := Fr.app N1 Nq2
  subst hv2
  obtain ⟨_, _, ⟨T3, L3, k3, n3⟩, -, X3, ⟨Lc3, hQ3, l3, y3, z3⟩, st3⟩ := Jvm.LawKit.callS X2 hx (y := (⟨"java/lang/Math", "min", "(II)I"⟩ : MethodName)) hown (mvT hZ (own_k hw 1 rfl)) (mvT hZ (own_k hw 2 rfl)) (mvT hZ (own_k hw 3 rfl)) (mvT hZ (own_k hw 4 rfl)) (by decide) (backOf (W := 0) (rmmin l Z a0 hw [] ((p2 &&& (1073741823 : Int32)) + (1 : Int32)) ((p3 &&& (1073741823 : Int32)) + (1 : Int32)) h0 n0 Z0 ) hZ (own_k hw 4 rfl) (own_k hw 3 rfl) (by decide) (by decide)) (g := (mkF m 50 #[.val (.int p0), .val (.int p1), .val (.int p2), .val (.int p3), .val (.int p4), .val (.int p5), .val (.int (p0 &&& (2147483647 : Int32))), .val (.int (p1 &&& (2147483647 : Int32))), .val (.int rr_1), .val (.int rr_2), .val (.int ((p2 &&& (1073741823 : Int32)) + (1 : Int32))), .val (.int ((p3 &&& (1073741823 : Int32)) + (1 : Int32))), .unset, .unset, .unset, .unset, .unset, .unset, .unset, .unset, .unset, .unset, .unset, .unset, .unset, .unset, .unset, .unset, .unset, .unset] [(.int ((p3 &&& (1073741823 : Int32)) + (1 : Int32))), (.int ((p2 &&& (1073741823 : Int32)) + (1 : Int32)))])) rfl (by rw [hml]; rfl) (argsL := [(.int ((p2 &&& (1073741823 : Int32)) + (1 : Int32))), (.int ((p3 &&& (1073741823 : Int32)) + (1 : Int32)))]) (rest := []) (lenOf own_pd_0 rfl) rfl (by show 2 * 0 + _ ≤ _; exact Nat.le_of_eq rfl) (hb hby at_50) (fun _ _ => ⟨rfl, eh2, (by decide : 0 + 0 ≤ _), (by decide : 0 + 0 ≤ _)⟩)
  dsimp only [Pt.U, Pt.locs, Pt.cells, Pt.slots] at X3 l3 y3 z3 st3 hQ3
  subst l3 y3 z3
  obtain ⟨rr_3, Nq3, eh3, p3_0, hv3⟩ := hQ3
  have N3 := Fr.app N2 Nq3
  subst hv3
  obtain ⟨_, _, ⟨T4, L4, k4, n4⟩, -, X4, ⟨Lc4, hQ4, l4, y4, z4⟩, st4⟩ := Jvm.LawKit.callS X3 hx (y := (⟨"java/lang/Math", "max", "(II)I"⟩ : MethodName)) hown (mvT hZ (own_k hw 5 rfl)) (mvT hZ (own_k hw 6 rfl)) (mvT hZ (own_k hw 3 rfl)) (mvT hZ (own_k hw 7 rfl)) (by decide) (backOf (W := 0) (rmmax l Z a0 hw [] ((p2 &&& (1073741823 : Int32)) + (1 : Int32)) ((p3 &&& (1073741823 : Int32)) + (1 : Int32)) h0 n0 Z0 ) hZ (own_k hw 7 rfl) (own_k hw 3 rfl) (by decide) (by decide)) (g := (mkF m 59 #[.val (.int p0), .val (.int p1), .val (.int p2), .val (.int p3), .val (.int p4), .val (.int p5), .val (.int (p0 &&& (2147483647 : Int32))), .val (.int (p1 &&& (2147483647 : Int32))), .val (.int rr_1), .val (.int rr_2), .val (.int ((p2 &&& (1073741823 : Int32)) + (1 : Int32))), .val (.int ((p3 &&& (1073741823 : Int32)) + (1 : Int32))), .val (.int rr_3), .unset, .unset, .unset, .unset, .unset, .unset, .unset, .unset, .unset, .unset, .unset, .unset, .unset, .unset, .unset, .unset, .unset] [(.int ((p3 &&& (1073741823 : Int32)) + (1 : Int32))), (.int ((p2 &&& (1073741823 : Int32)) + (1 : Int32)))])) rfl (by rw [hml]; rfl) (argsL := [(.int ((p2 &&& (1073741823 : Int32)) + (1 : Int32))), (.int ((p3 &&& (1073741823 : Int32)) + (1 : Int32)))]) (rest := []) (lenOf own_pd_0 rfl) rfl (by show 2 * 0 + _ ≤ _; exact Nat.le_of_eq rfl) (hb hby at_59) (fun _ _ => ⟨rfl, eh3, (by decide : 0 + 0 ≤ _), (by decide : 0 + 0 ≤ _)⟩)
  dsimp only [Pt.U, Pt.locs, Pt.cells, Pt.slots] at X4 l4 y4 z4 st4 hQ4
  subst l4 y4 z4
  obtain ⟨rr_4, Nq4, eh4, p4_0, hv4⟩ := hQ4
  have N4 := Fr.app N3 Nq4
  subst hv4
  have hL := own_mm (k := 0) p1_0 p2_0 (own_m0 p0) (own_m0 p1)
  have hA := own_mm (k := 1) p3_0 p4_0 (own_m1 p2) (own_m1 p3)
  obtain ⟨_, _, ⟨T5, L5, k5, n5⟩, -, X5, ⟨Lc5, hQ5, l5, y5, z5⟩, st5⟩ := Jvm.LawKit.callS X4 hx (y := (⟨"com/example/multilingual_query_search/multilingualquerysearch/scoring/Bm25", "lengthNormalisation", "(DD)D"⟩ : MethodName)) hown (mvT hZ (own_k hw 9 rfl)) (mvT hZ (own_k hw 10 rfl)) (mvT hZ (own_k hw 11 rfl)) (mvT hZ (own_k hw 12 rfl)) (by decide) (backOf (W := 0) (rmLen l Z a0 hw [] (FP.i2d rr_1) (FP.i2d rr_3) h0 n0 Z0 (own_nn (own_mF _ hL.1).1.ne) (own_nn (own_qF _ _ hL.1 hA.1).1.ne) (own_nn (own_sF _ _ hL.1 hA.1).1.ne) (own_nn (own_fF _ _ hL.1 hA.1).1.ne)) hZ (own_k hw 12 rfl) (own_k hw 11 rfl) (by decide) (by decide)) (g := (mkF m 70 #[.val (.int p0), .val (.int p1), .val (.int p2), .val (.int p3), .val (.int p4), .val (.int p5), .val (.int (p0 &&& (2147483647 : Int32))), .val (.int (p1 &&& (2147483647 : Int32))), .val (.int rr_1), .val (.int rr_2), .val (.int ((p2 &&& (1073741823 : Int32)) + (1 : Int32))), .val (.int ((p3 &&& (1073741823 : Int32)) + (1 : Int32))), .val (.int rr_3), .val (.int rr_4), .unset, .unset, .unset, .unset, .unset, .unset, .unset, .unset, .unset, .unset, .unset, .unset, .unset, .unset, .unset, .unset] [(.double (FP.i2d rr_3)), (.double (FP.i2d rr_1))])) rfl (by rw [hml]; rfl) (argsL := [(.double (FP.i2d rr_1)), (.double (FP.i2d rr_3))]) (rest := []) (lenOf own_pd_1 rfl) rfl (by show 2 * 0 + _ ≤ _; exact Nat.le_of_eq rfl) (hb hby at_70) (fun _ _ => ⟨rfl, eh4, (by decide : 0 + 0 ≤ _), (by decide : 0 + 0 ≤ _)⟩)
  dsimp only [Pt.U, Pt.locs, Pt.cells, Pt.slots] at X5 l5 y5 z5 st5 hQ5
  subst l5 y5 z5
  obtain ⟨Nq5, eh5, hv5⟩ := hQ5
  have N5 := Fr.app N4 Nq5
  subst hv5
  obtain ⟨_, _, ⟨T6, L6, k6, n6⟩, -, X6, ⟨Lc6, hQ6, l6, y6, z6⟩, st6⟩ := Jvm.LawKit.callS X5 hx (y := (⟨"com/example/multilingual_query_search/multilingualquerysearch/scoring/Bm25", "lengthNormalisation", "(DD)D"⟩ : MethodName)) hown (mvT hZ (own_k hw 9 rfl)) (mvT hZ (own_k hw 10 rfl)) (mvT hZ (own_k hw 11 rfl)) (mvT hZ (own_k hw 12 rfl)) (by decide) (backOf (W := 0) (rmLen l Z a0 hw [] (FP.i2d rr_2) (FP.i2d rr_3) h0 n0 Z0 (own_nn (own_mF _ hL.2.2).1.ne) (own_nn (own_qF _ _ hL.2.2 hA.1).1.ne) (own_nn (own_sF _ _ hL.2.2 hA.1).1.ne) (own_nn (own_fF _ _ hL.2.2 hA.1).1.ne)) hZ (own_k hw 12 rfl) (own_k hw 11 rfl) (by decide) (by decide)) (g := (mkF m 81 #[.val (.int p0), .val (.int p1), .val (.int p2), .val (.int p3), .val (.int p4), .val (.int p5), .val (.int (p0 &&& (2147483647 : Int32))), .val (.int (p1 &&& (2147483647 : Int32))), .val (.int rr_1), .val (.int rr_2), .val (.int ((p2 &&& (1073741823 : Int32)) + (1 : Int32))), .val (.int ((p3 &&& (1073741823 : Int32)) + (1 : Int32))), .val (.int rr_3), .val (.int rr_4), .val (.double (FP.dmul (4608083138725491507 : UInt64) (FP.dadd (4598175219545276416 : UInt64) (FP.ddiv (FP.dmul (4604930618986332160 : UInt64) (FP.i2d rr_1)) (FP.i2d rr_3))))), .second, .unset, .unset, .unset, .unset, .unset, .unset, .unset, .unset, .unset, .unset, .unset, .unset, .unset, .unset] [(.double (FP.i2d rr_3)), (.double (FP.i2d rr_2))])) rfl (by rw [hml]; rfl) (argsL := [(.double (FP.i2d rr_2)), (.double (FP.i2d rr_3))]) (rest := []) (lenOf own_pd_1 rfl) rfl (by show 2 * 0 + _ ≤ _; exact Nat.le_of_eq rfl) (hb hby at_81) (fun _ _ => ⟨rfl, eh5, (by decide : 0 + 0 ≤ _), (by decide : 0 + 0 ≤ _)⟩)
  dsimp only [Pt.U, Pt.locs, Pt.cells, Pt.slots] at X6 l6 y6 z6 st6 hQ6
  subst l6 y6 z6
  obtain ⟨Nq6, eh6, hv6⟩ := hQ6
  have N6 := Fr.app N5 Nq6
  subst hv6
  obtain ⟨_, _, ⟨T7, L7, k7, n7⟩, -, X7, ⟨Lc7, hQ7, l7, y7, z7⟩, st7⟩ := Jvm.LawKit.callS X6 hx (y := (⟨"com/example/multilingual_query_search/multilingualquerysearch/scoring/Bm25", "lengthNormalisation", "(DD)D"⟩ : MethodName)) hown (mvT hZ (own_k hw 9 rfl)) (mvT hZ (own_k hw 10 rfl)) (mvT hZ (own_k hw 11 rfl)) (mvT hZ (own_k hw 12 rfl)) (by decide) (backOf (W := 0) (rmLen l Z a0 hw [] (FP.i2d rr_1) (FP.i2d rr_4) h0 n0 Z0 (own_nn (own_mF _ hL.1).1.ne) (own_nn (own_qF _ _ hL.1 hA.2.2).1.ne) (own_nn (own_sF _ _ hL.1 hA.2.2).1.ne) (own_nn (own_fF _ _ hL.1 hA.2.2).1.ne)) hZ (own_k hw 12 rfl) (own_k hw 11 rfl) (by decide) (by decide)) (g := (mkF m 92 #[.val (.int p0), .val (.int p1), .val (.int p2), .val (.int p3), .val (.int p4), .val (.int p5), .val (.int (p0 &&& (2147483647 : Int32))), .val (.int (p1 &&& (2147483647 : Int32))), .val (.int rr_1), .val (.int rr_2), .val (.int ((p2 &&& (1073741823 : Int32)) + (1 : Int32))), .val (.int ((p3 &&& (1073741823 : Int32)) + (1 : Int32))), .val (.int rr_3), .val (.int rr_4), .val (.double (FP.dmul (4608083138725491507 : UInt64) (FP.dadd (4598175219545276416 : UInt64) (FP.ddiv (FP.dmul (4604930618986332160 : UInt64) (FP.i2d rr_1)) (FP.i2d rr_3))))), .second, .val (.double (FP.dmul (4608083138725491507 : UInt64) (FP.dadd (4598175219545276416 : UInt64) (FP.ddiv (FP.dmul (4604930618986332160 : UInt64) (FP.i2d rr_2)) (FP.i2d rr_3))))), .second, .unset, .unset, .unset, .unset, .unset, .unset, .unset, .unset, .unset, .unset, .unset, .unset] [(.double (FP.i2d rr_4)), (.double (FP.i2d rr_1))])) rfl (by rw [hml]; rfl) (argsL := [(.double (FP.i2d rr_1)), (.double (FP.i2d rr_4))]) (rest := []) (lenOf own_pd_1 rfl) rfl (by show 2 * 0 + _ ≤ _; exact Nat.le_of_eq rfl) (hb hby at_92) (fun _ _ => ⟨rfl, eh6, (by decide : 0 + 0 ≤ _), (by decide : 0 + 0 ≤ _)⟩)
  dsimp only [Pt.U, Pt.locs, Pt.cells, Pt.slots] at X7 l7 y7 z7 st7 hQ7
  subst l7 y7 z7
  obtain ⟨Nq7, eh7, hv7⟩ := hQ7
  have N7 := Fr.app N6 Nq7
  subst hv7
  have hN := own_n p4
  have hB := own_a p5
  have hAn := own_anchor hN hB
  obtain ⟨_, _, ⟨T8, L8, k8, n8⟩, -, X8, ⟨Lc8, hQ8, l8, y8, z8⟩, st8⟩ := Jvm.LawKit.callS X7 hx (y := (⟨"com/example/multilingual_query_search/multilingualquerysearch/scoring/Bm25", "lengthNormalisation", "(DD)D"⟩ : MethodName)) hown (mvT hZ (own_k hw 9 rfl)) (mvT hZ (own_k hw 10 rfl)) (mvT hZ (own_k hw 11 rfl)) (mvT hZ (own_k hw 12 rfl)) (by decide) (backOf (W := 0) (rmLen l Z a0 hw [] (FP.i2d ((p4 &&& (1023 : Int32)) * ((p5 &&& (1048575 : Int32)) + (1 : Int32)))) (FP.i2d ((p5 &&& (1048575 : Int32)) + (1 : Int32))) h0 n0 Z0 (own_nn (own_mF _ (own_na hN hB)).1.ne) (own_nn (own_qF _ _ (own_na hN hB) hB.1).1.ne) (own_nn (own_sF _ _ (own_na hN hB) hB.1).1.ne) (own_nn (own_fF _ _ (own_na hN hB) hB.1).1.ne)) hZ (own_k hw 12 rfl) (own_k hw 11 rfl) (by decide) (by decide)) (g := (mkF m 169 #[.val (.int p0), .val (.int p1), .val (.int p2), .val (.int p3), .val (.int p4), .val (.int p5), .val (.int (p0 &&& (2147483647 : Int32))), .val (.int (p1 &&& (2147483647 : Int32))), .val (.int rr_1), .val (.int rr_2), .val (.int ((p2 &&& (1073741823 : Int32)) + (1 : Int32))), .val (.int ((p3 &&& (1073741823 : Int32)) + (1 : Int32))), .val (.int rr_3), .val (.int rr_4), .val (.double (FP.dmul (4608083138725491507 : UInt64) (FP.dadd (4598175219545276416 : UInt64) (FP.ddiv (FP.dmul (4604930618986332160 : UInt64) (FP.i2d rr_1)) (FP.i2d rr_3))))), .second, .val (.double (FP.dmul (4608083138725491507 : UInt64) (FP.dadd (4598175219545276416 : UInt64) (FP.ddiv (FP.dmul (4604930618986332160 : UInt64) (FP.i2d rr_2)) (FP.i2d rr_3))))), .second, .val (.double (FP.dmul (4608083138725491507 : UInt64) (FP.dadd (4598175219545276416 : UInt64) (FP.ddiv (FP.dmul (4604930618986332160 : UInt64) (FP.i2d rr_1)) (FP.i2d rr_4))))), .second, .val (.int (1 : Int32)), .val (.int (1 : Int32)), .val (.int (1 : Int32)), .val (.int (p4 &&& (1023 : Int32))), .val (.int ((p5 &&& (1048575 : Int32)) + (1 : Int32))), .unset, .unset, .unset, .unset, .unset] [(.double (FP.i2d ((p5 &&& (1048575 : Int32)) + (1 : Int32)))), (.double (FP.i2d ((p4 &&& (1023 : Int32)) * ((p5 &&& (1048575 : Int32)) + (1 : Int32)))))])) rfl (by rw [hml]; rfl) (argsL := [(.double (FP.i2d ((p4 &&& (1023 : Int32)) * ((p5 &&& (1048575 : Int32)) + (1 : Int32))))), (.double (FP.i2d ((p5 &&& (1048575 : Int32)) + (1 : Int32))))]) (rest := []) (lenOf own_pd_1 rfl) rfl (by show 2 * 0 + _ ≤ _; exact Nat.le_of_eq rfl) (hb hby at_169) (fun _ _ => ⟨rfl, eh7, (by decide : 0 + 0 ≤ _), (by decide : 0 + 0 ≤ _)⟩)
  dsimp only [Pt.U, Pt.locs, Pt.cells, Pt.slots] at X8 l8 y8 z8 st8 hQ8
  subst l8 y8 z8
  obtain ⟨Nq8, eh8, hv8⟩ := hQ8
  have N8 := Fr.app N7 Nq8
  subst hv8
  obtain ⟨fs, hr, hrun, hended, hW, hsame⟩ := X8.leave (v := (some (.int (1 : Int32)))) (fun h => by rw [Bd.returns] at h; cases h)
  refine ⟨_, _, pre0 _ ?_, hrun, hended, _, _, rfl, ?_, ⟨_, rfl⟩, hW, hsame.mono (by decide) (by decide)⟩
  · show Steps p.tables e below (s₁.setTop (mkF m 0 #[.val (.int p0), .val (.int p1), .val (.int p2), .val (.int p3), .val (.int p4), .val (.int p5), .unset, .unset, .unset, .unset, .unset, .unset, .unset, .unset, .unset, .unset, .unset, .unset, .unset, .unset, .unset, .unset, .unset, .unset, .unset, .unset, .unset, .unset, .unset, .unset] [])) _
    refine XS.iloadN X0.here hx rfl (hb hby at_0) rfl ?_
    show Steps p.tables e below (s₁.setTop (mkF m 1 #[.val (.int p0), .val (.int p1), .val (.int p2), .val (.int p3), .val (.int p4), .val (.int p5), .unset, .unset, .unset, .unset, .unset, .unset, .unset, .unset, .unset, .unset, .unset, .unset, .unset, .unset, .unset, .unset, .unset, .unset, .unset, .unset, .unset, .unset, .unset, .unset] [(.int p0)])) _
    refine X0.ldcInt hx hown (mvT hZ (own_k hw 0 rfl)) (g := (mkF m 1 #[.val (.int p0), .val (.int p1), .val (.int p2), .val (.int p3), .val (.int p4), .val (.int p5), .unset, .unset, .unset, .unset, .unset, .unset, .unset, .unset, .unset, .unset, .unset, .unset, .unset, .unset, .unset, .unset, .unset, .unset, .unset, .unset, .unset, .unset, .unset, .unset] [(.int p0)])) rfl (hb hby at_1) _ ?_
    show Steps p.tables e below (s₁.setTop (mkF m 3 #[.val (.int p0), .val (.int p1), .val (.int p2), .val (.int p3), .val (.int p4), .val (.int p5), .unset, .unset, .unset, .unset, .unset, .unset, .unset, .unset, .unset, .unset, .unset, .unset, .unset, .unset, .unset, .unset, .unset, .unset, .unset, .unset, .unset, .unset, .unset, .unset] [(.int (2147483647 : Int32)), (.int p0)])) _
    refine XS.iand X0.here hx rfl (hb hby at_3) rfl ?_
    show Steps p.tables e below (s₁.setTop (mkF m 4 #[.val (.int p0), .val (.int p1), .val (.int p2), .val (.int p3), .val (.int p4), .val (.int p5), .unset, .unset, .unset, .unset, .unset, .unset, .unset, .unset, .unset, .unset, .unset, .unset, .unset, .unset, .unset, .unset, .unset, .unset, .unset, .unset, .unset, .unset, .unset, .unset] [(.int (p0 &&& (2147483647 : Int32)))])) _
    refine XS.istore X0.here hx rfl (hb hby at_4) rfl (l' := #[.val (.int p0), .val (.int p1), .val (.int p2), .val (.int p3), .val (.int p4), .val (.int p5), .val (.int (p0 &&& (2147483647 : Int32))), .unset, .unset, .unset, .unset, .unset, .unset, .unset, .unset, .unset, .unset, .unset, .unset, .unset, .unset, .unset, .unset, .unset, .unset, .unset, .unset, .unset, .unset, .unset]) rfl ?_
    show Steps p.tables e below (s₁.setTop (mkF m 6 #[.val (.int p0), .val (.int p1), .val (.int p2), .val (.int p3), .val (.int p4), .val (.int p5), .val (.int (p0 &&& (2147483647 : Int32))), .unset, .unset, .unset, .unset, .unset, .unset, .unset, .unset, .unset, .unset, .unset, .unset, .unset, .unset, .unset, .unset, .unset, .unset, .unset, .unset, .unset, .unset, .unset] [])) _
    refine XS.iloadN X0.here hx rfl (hb hby at_6) rfl ?_
    show Steps p.tables e below (s₁.setTop (mkF m 7 #[.val (.int p0), .val (.int p1), .val (.int p2), .val (.int p3), .val (.int p4), .val (.int p5), .val (.int (p0 &&& (2147483647 : Int32))), .unset, .unset, .unset, .unset, .unset, .unset, .unset, .unset, .unset, .unset, .unset, .unset, .unset, .unset, .unset, .unset, .unset, .unset, .unset, .unset, .unset, .unset, .unset] [(.int p1)])) _
    refine X0.ldcInt hx hown (mvT hZ (own_k hw 0 rfl)) (g := (mkF m 7 #[.val (.int p0), .val (.int p1), .val (.int p2), .val (.int p3), .val (.int p4), .val (.int p5), .val (.int (p0 &&& (2147483647 : Int32))), .unset, .unset, .unset, .unset, .unset, .unset, .unset, .unset, .unset, .unset, .unset, .unset, .unset, .unset, .unset, .unset, .unset, .unset, .unset, .unset, .unset, .unset, .unset] [(.int p1)])) rfl (hb hby at_7) _ ?_
    show Steps p.tables e below (s₁.setTop (mkF m 9 #[.val (.int p0), .val (.int p1), .val (.int p2), .val (.int p3), .val (.int p4), .val (.int p5), .val (.int (p0 &&& (2147483647 : Int32))), .unset, .unset, .unset, .unset, .unset, .unset, .unset, .unset, .unset, .unset, .unset, .unset, .unset, .unset, .unset, .unset, .unset, .unset, .unset, .unset, .unset, .unset, .unset] [(.int (2147483647 : Int32)), (.int p1)])) _
    refine XS.iand X0.here hx rfl (hb hby at_9) rfl ?_
    show Steps p.tables e below (s₁.setTop (mkF m 10 #[.val (.int p0), .val (.int p1), .val (.int p2), .val (.int p3), .val (.int p4), .val (.int p5), .val (.int (p0 &&& (2147483647 : Int32))), .unset, .unset, .unset, .unset, .unset, .unset, .unset, .unset, .unset, .unset, .unset, .unset, .unset, .unset, .unset, .unset, .unset, .unset, .unset, .unset, .unset, .unset, .unset] [(.int (p1 &&& (2147483647 : Int32)))])) _
    refine XS.istore X0.here hx rfl (hb hby at_10) rfl (l' := #[.val (.int p0), .val (.int p1), .val (.int p2), .val (.int p3), .val (.int p4), .val (.int p5), .val (.int (p0 &&& (2147483647 : Int32))), .val (.int (p1 &&& (2147483647 : Int32))), .unset, .unset, .unset, .unset, .unset, .unset, .unset, .unset, .unset, .unset, .unset, .unset, .unset, .unset, .unset, .unset, .unset, .unset, .unset, .unset, .unset, .unset]) rfl ?_
    show Steps p.tables e below (s₁.setTop (mkF m 12 #[.val (.int p0), .val (.int p1), .val (.int p2), .val (.int p3), .val (.int p4), .val (.int p5), .val (.int (p0 &&& (2147483647 : Int32))), .val (.int (p1 &&& (2147483647 : Int32))), .unset, .unset, .unset, .unset, .unset, .unset, .unset, .unset, .unset, .unset, .unset, .unset, .unset, .unset, .unset, .unset, .unset, .unset, .unset, .unset, .unset, .unset] [])) _
    refine XS.iload X0.here hx rfl (hb hby at_12) rfl ?_
    show Steps p.tables e below (s₁.setTop (mkF m 14 #[.val (.int p0), .val (.int p1), .val (.int p2), .val (.int p3), .val (.int p4), .val (.int p5), .val (.int (p0 &&& (2147483647 : Int32))), .val (.int (p1 &&& (2147483647 : Int32))), .unset, .unset, .unset, .unset, .unset, .unset, .unset, .unset, .unset, .unset, .unset, .unset, .unset, .unset, .unset, .unset, .unset, .unset, .unset, .unset, .unset, .unset] [(.int (p0 &&& (2147483647 : Int32)))])) _
    refine XS.iload X0.here hx rfl (hb hby at_14) rfl ?_
    show Steps p.tables e below (s₁.setTop (mkF m 16 #[.val (.int p0), .val (.int p1), .val (.int p2), .val (.int p3), .val (.int p4), .val (.int p5), .val (.int (p0 &&& (2147483647 : Int32))), .val (.int (p1 &&& (2147483647 : Int32))), .unset, .unset, .unset, .unset, .unset, .unset, .unset, .unset, .unset, .unset, .unset, .unset, .unset, .unset, .unset, .unset, .unset, .unset, .unset, .unset, .unset, .unset] [(.int (p1 &&& (2147483647 : Int32))), (.int (p0 &&& (2147483647 : Int32)))])) _
    refine st1 _ ?_
    show Steps p.tables e below (T1.setTop (mkF m 19 #[.val (.int p0), .val (.int p1), .val (.int p2), .val (.int p3), .val (.int p4), .val (.int p5), .val (.int (p0 &&& (2147483647 : Int32))), .val (.int (p1 &&& (2147483647 : Int32))), .unset, .unset, .unset, .unset, .unset, .unset, .unset, .unset, .unset, .unset, .unset, .unset, .unset, .unset, .unset, .unset, .unset, .unset, .unset, .unset, .unset, .unset] [(.int rr_1)])) _
    refine XS.istore X1.here hx rfl (hb hby at_19) rfl (l' := #[.val (.int p0), .val (.int p1), .val (.int p2), .val (.int p3), .val (.int p4), .val (.int p5), .val (.int (p0 &&& (2147483647 : Int32))), .val (.int (p1 &&& (2147483647 : Int32))), .val (.int rr_1), .unset, .unset, .unset, .unset, .unset, .unset, .unset, .unset, .unset, .unset, .unset, .unset, .unset, .unset, .unset, .unset, .unset, .unset, .unset, .unset, .unset]) rfl ?_
    show Steps p.tables e below (T1.setTop (mkF m 21 #[.val (.int p0), .val (.int p1), .val (.int p2), .val (.int p3), .val (.int p4), .val (.int p5), .val (.int (p0 &&& (2147483647 : Int32))), .val (.int (p1 &&& (2147483647 : Int32))), .val (.int rr_1), .unset, .unset, .unset, .unset, .unset, .unset, .unset, .unset, .unset, .unset, .unset, .unset, .unset, .unset, .unset, .unset, .unset, .unset, .unset, .unset, .unset] [])) _
    refine XS.iload X1.here hx rfl (hb hby at_21) rfl ?_
    show Steps p.tables e below (T1.setTop (mkF m 23 #[.val (.int p0), .val (.int p1), .val (.int p2), .val (.int p3), .val (.int p4), .val (.int p5), .val (.int (p0 &&& (2147483647 : Int32))), .val (.int (p1 &&& (2147483647 : Int32))), .val (.int rr_1), .unset, .unset, .unset, .unset, .unset, .unset, .unset, .unset, .unset, .unset, .unset, .unset, .unset, .unset, .unset, .unset, .unset, .unset, .unset, .unset, .unset] [(.int (p0 &&& (2147483647 : Int32)))])) _
    refine XS.iload X1.here hx rfl (hb hby at_23) rfl ?_
    show Steps p.tables e below (T1.setTop (mkF m 25 #[.val (.int p0), .val (.int p1), .val (.int p2), .val (.int p3), .val (.int p4), .val (.int p5), .val (.int (p0 &&& (2147483647 : Int32))), .val (.int (p1 &&& (2147483647 : Int32))), .val (.int rr_1), .unset, .unset, .unset, .unset, .unset, .unset, .unset, .unset, .unset, .unset, .unset, .unset, .unset, .unset, .unset, .unset, .unset, .unset, .unset, .unset, .unset] [(.int (p1 &&& (2147483647 : Int32))), (.int (p0 &&& (2147483647 : Int32)))])) _
    refine st2 _ ?_
    show Steps p.tables e below (T2.setTop (mkF m 28 #[.val (.int p0), .val (.int p1), .val (.int p2), .val (.int p3), .val (.int p4), .val (.int p5), .val (.int (p0 &&& (2147483647 : Int32))), .val (.int (p1 &&& (2147483647 : Int32))), .val (.int rr_1), .unset, .unset, .unset, .unset, .unset, .unset, .unset, .unset, .unset, .unset, .unset, .unset, .unset, .unset, .unset, .unset, .unset, .unset, .unset, .unset, .unset] [(.int rr_2)])) _
    refine XS.istore X2.here hx rfl (hb hby at_28) rfl (l' := #[.val (.int p0), .val (.int p1), .val (.int p2), .val (.int p3), .val (.int p4), .val (.int p5), .val (.int (p0 &&& (2147483647 : Int32))), .val (.int (p1 &&& (2147483647 : Int32))), .val (.int rr_1), .val (.int rr_2), .unset, .unset, .unset, .unset, .unset, .unset, .unset, .unset, .unset, .unset, .unset, .unset, .unset, .unset, .unset, .unset, .unset, .unset, .unset, .unset]) rfl ?_
    show Steps p.tables e below (T2.setTop (mkF m 30 #[.val (.int p0), .val (.int p1), .val (.int p2), .val (.int p3), .val (.int p4), .val (.int p5), .val (.int (p0 &&& (2147483647 : Int32))), .val (.int (p1 &&& (2147483647 : Int32))), .val (.int rr_1), .val (.int rr_2), .unset, .unset, .unset, .unset, .unset, .unset, .unset, .unset, .unset, .unset, .unset, .unset, .unset, .unset, .unset, .unset, .unset, .unset, .unset, .unset] [])) _
    refine XS.iloadN X2.here hx rfl (hb hby at_30) rfl ?_
    show Steps p.tables e below (T2.setTop (mkF m 31 #[.val (.int p0), .val (.int p1), .val (.int p2), .val (.int p3), .val (.int p4), .val (.int p5), .val (.int (p0 &&& (2147483647 : Int32))), .val (.int (p1 &&& (2147483647 : Int32))), .val (.int rr_1), .val (.int rr_2), .unset, .unset, .unset, .unset, .unset, .unset, .unset, .unset, .unset, .unset, .unset, .unset, .unset, .unset, .unset, .unset, .unset, .unset, .unset, .unset] [(.int p2)])) _
    refine X2.ldcInt hx hown (mvT hZ (own_k hw 8 rfl)) (g := (mkF m 31 #[.val (.int p0), .val (.int p1), .val (.int p2), .val (.int p3), .val (.int p4), .val (.int p5), .val (.int (p0 &&& (2147483647 : Int32))), .val (.int (p1 &&& (2147483647 : Int32))), .val (.int rr_1), .val (.int rr_2), .unset, .unset, .unset, .unset, .unset, .unset, .unset, .unset, .unset, .unset, .unset, .unset, .unset, .unset, .unset, .unset, .unset, .unset, .unset, .unset] [(.int p2)])) rfl (hb hby at_31) _ ?_
    show Steps p.tables e below (T2.setTop (mkF m 33 #[.val (.int p0), .val (.int p1), .val (.int p2), .val (.int p3), .val (.int p4), .val (.int p5), .val (.int (p0 &&& (2147483647 : Int32))), .val (.int (p1 &&& (2147483647 : Int32))), .val (.int rr_1), .val (.int rr_2), .unset, .unset, .unset, .unset, .unset, .unset, .unset, .unset, .unset, .unset, .unset, .unset, .unset, .unset, .unset, .unset, .unset, .unset, .unset, .unset] [(.int (1073741823 : Int32)), (.int p2)])) _
    refine XS.iand X2.here hx rfl (hb hby at_33) rfl ?_
    show Steps p.tables e below (T2.setTop (mkF m 34 #[.val (.int p0), .val (.int p1), .val (.int p2), .val (.int p3), .val (.int p4), .val (.int p5), .val (.int (p0 &&& (2147483647 : Int32))), .val (.int (p1 &&& (2147483647 : Int32))), .val (.int rr_1), .val (.int rr_2), .unset, .unset, .unset, .unset, .unset, .unset, .unset, .unset, .unset, .unset, .unset, .unset, .unset, .unset, .unset, .unset, .unset, .unset, .unset, .unset] [(.int (p2 &&& (1073741823 : Int32)))])) _
    refine XS.iconst X2.here hx rfl (hb hby at_34) ?_
    show Steps p.tables e below (T2.setTop (mkF m 35 #[.val (.int p0), .val (.int p1), .val (.int p2), .val (.int p3), .val (.int p4), .val (.int p5), .val (.int (p0 &&& (2147483647 : Int32))), .val (.int (p1 &&& (2147483647 : Int32))), .val (.int rr_1), .val (.int rr_2), .unset, .unset, .unset, .unset, .unset, .unset, .unset, .unset, .unset, .unset, .unset, .unset, .unset, .unset, .unset, .unset, .unset, .unset, .unset, .unset] [(.int (1 : Int32)), (.int (p2 &&& (1073741823 : Int32)))])) _
    refine XS.iadd X2.here hx rfl (hb hby at_35) rfl ?_
    show Steps p.tables e below (T2.setTop (mkF m 36 #[.val (.int p0), .val (.int p1), .val (.int p2), .val (.int p3), .val (.int p4), .val (.int p5), .val (.int (p0 &&& (2147483647 : Int32))), .val (.int (p1 &&& (2147483647 : Int32))), .val (.int rr_1), .val (.int rr_2), .unset, .unset, .unset, .unset, .unset, .unset, .unset, .unset, .unset, .unset, .unset, .unset, .unset, .unset, .unset, .unset, .unset, .unset, .unset, .unset] [(.int ((p2 &&& (1073741823 : Int32)) + (1 : Int32)))])) _
    refine XS.istore X2.here hx rfl (hb hby at_36) rfl (l' := #[.val (.int p0), .val (.int p1), .val (.int p2), .val (.int p3), .val (.int p4), .val (.int p5), .val (.int (p0 &&& (2147483647 : Int32))), .val (.int (p1 &&& (2147483647 : Int32))), .val (.int rr_1), .val (.int rr_2), .val (.int ((p2 &&& (1073741823 : Int32)) + (1 : Int32))), .unset, .unset, .unset, .unset, .unset, .unset, .unset, .unset, .unset, .unset, .unset, .unset, .unset, .unset, .unset, .unset, .unset, .unset, .unset]) rfl ?_
    show Steps p.tables e below (T2.setTop (mkF m 38 #[.val (.int p0), .val (.int p1), .val (.int p2), .val (.int p3), .val (.int p4), .val (.int p5), .val (.int (p0 &&& (2147483647 : Int32))), .val (.int (p1 &&& (2147483647 : Int32))), .val (.int rr_1), .val (.int rr_2), .val (.int ((p2 &&& (1073741823 : Int32)) + (1 : Int32))), .unset, .unset, .unset, .unset, .unset, .unset, .unset, .unset, .unset, .unset, .unset, .unset, .unset, .unset, .unset, .unset, .unset, .unset, .unset] [])) _
    refine XS.iloadN X2.here hx rfl (hb hby at_38) rfl ?_
    show Steps p.tables e below (T2.setTop (mkF m 39 #[.val (.int p0), .val (.int p1), .val (.int p2), .val (.int p3), .val (.int p4), .val (.int p5), .val (.int (p0 &&& (2147483647 : Int32))), .val (.int (p1 &&& (2147483647 : Int32))), .val (.int rr_1), .val (.int rr_2), .val (.int ((p2 &&& (1073741823 : Int32)) + (1 : Int32))), .unset, .unset, .unset, .unset, .unset, .unset, .unset, .unset, .unset, .unset, .unset, .unset, .unset, .unset, .unset, .unset, .unset, .unset, .unset] [(.int p3)])) _
    refine X2.ldcInt hx hown (mvT hZ (own_k hw 8 rfl)) (g := (mkF m 39 #[.val (.int p0), .val (.int p1), .val (.int p2), .val (.int p3), .val (.int p4), .val (.int p5), .val (.int (p0 &&& (2147483647 : Int32))), .val (.int (p1 &&& (2147483647 : Int32))), .val (.int rr_1), .val (.int rr_2), .val (.int ((p2 &&& (1073741823 : Int32)) + (1 : Int32))), .unset, .unset, .unset, .unset, .unset, .unset, .unset, .unset, .unset, .unset, .unset, .unset, .unset, .unset, .unset, .unset, .unset, .unset, .unset] [(.int p3)])) rfl (hb hby at_39) _ ?_
    show Steps p.tables e below (T2.setTop (mkF m 41 #[.val (.int p0), .val (.int p1), .val (.int p2), .val (.int p3), .val (.int p4), .val (.int p5), .val (.int (p0 &&& (2147483647 : Int32))), .val (.int (p1 &&& (2147483647 : Int32))), .val (.int rr_1), .val (.int rr_2), .val (.int ((p2 &&& (1073741823 : Int32)) + (1 : Int32))), .unset, .unset, .unset, .unset, .unset, .unset, .unset, .unset, .unset, .unset, .unset, .unset, .unset, .unset, .unset, .unset, .unset, .unset, .unset] [(.int (1073741823 : Int32)), (.int p3)])) _
    refine XS.iand X2.here hx rfl (hb hby at_41) rfl ?_
    show Steps p.tables e below (T2.setTop (mkF m 42 #[.val (.int p0), .val (.int p1), .val (.int p2), .val (.int p3), .val (.int p4), .val (.int p5), .val (.int (p0 &&& (2147483647 : Int32))), .val (.int (p1 &&& (2147483647 : Int32))), .val (.int rr_1), .val (.int rr_2), .val (.int ((p2 &&& (1073741823 : Int32)) + (1 : Int32))), .unset, .unset, .unset, .unset, .unset, .unset, .unset, .unset, .unset, .unset, .unset, .unset, .unset, .unset, .unset, .unset, .unset, .unset, .unset] [(.int (p3 &&& (1073741823 : Int32)))])) _
    refine XS.iconst X2.here hx rfl (hb hby at_42) ?_
    show Steps p.tables e below (T2.setTop (mkF m 43 #[.val (.int p0), .val (.int p1), .val (.int p2), .val (.int p3), .val (.int p4), .val (.int p5), .val (.int (p0 &&& (2147483647 : Int32))), .val (.int (p1 &&& (2147483647 : Int32))), .val (.int rr_1), .val (.int rr_2), .val (.int ((p2 &&& (1073741823 : Int32)) + (1 : Int32))), .unset, .unset, .unset, .unset, .unset, .unset, .unset, .unset, .unset, .unset, .unset, .unset, .unset, .unset, .unset, .unset, .unset, .unset, .unset] [(.int (1 : Int32)), (.int (p3 &&& (1073741823 : Int32)))])) _
    refine XS.iadd X2.here hx rfl (hb hby at_43) rfl ?_
    show Steps p.tables e below (T2.setTop (mkF m 44 #[.val (.int p0), .val (.int p1), .val (.int p2), .val (.int p3), .val (.int p4), .val (.int p5), .val (.int (p0 &&& (2147483647 : Int32))), .val (.int (p1 &&& (2147483647 : Int32))), .val (.int rr_1), .val (.int rr_2), .val (.int ((p2 &&& (1073741823 : Int32)) + (1 : Int32))), .unset, .unset, .unset, .unset, .unset, .unset, .unset, .unset, .unset, .unset, .unset, .unset, .unset, .unset, .unset, .unset, .unset, .unset, .unset] [(.int ((p3 &&& (1073741823 : Int32)) + (1 : Int32)))])) _
    refine XS.istore X2.here hx rfl (hb hby at_44) rfl (l' := #[.val (.int p0), .val (.int p1), .val (.int p2), .val (.int p3), .val (.int p4), .val (.int p5), .val (.int (p0 &&& (2147483647 : Int32))), .val (.int (p1 &&& (2147483647 : Int32))), .val (.int rr_1), .val (.int rr_2), .val (.int ((p2 &&& (1073741823 : Int32)) + (1 : Int32))), .val (.int ((p3 &&& (1073741823 : Int32)) + (1 : Int32))), .unset, .unset, .unset, .unset, .unset, .unset, .unset, .unset, .unset, .unset, .unset, .unset, .unset, .unset, .unset, .unset, .unset, .unset]) rfl ?_
    show Steps p.tables e below (T2.setTop (mkF m 46 #[.val (.int p0), .val (.int p1), .val (.int p2), .val (.int p3), .val (.int p4), .val (.int p5), .val (.int (p0 &&& (2147483647 : Int32))), .val (.int (p1 &&& (2147483647 : Int32))), .val (.int rr_1), .val (.int rr_2), .val (.int ((p2 &&& (1073741823 : Int32)) + (1 : Int32))), .val (.int ((p3 &&& (1073741823 : Int32)) + (1 : Int32))), .unset, .unset, .unset, .unset, .unset, .unset, .unset, .unset, .unset, .unset, .unset, .unset, .unset, .unset, .unset, .unset, .unset, .unset] [])) _
    refine XS.iload X2.here hx rfl (hb hby at_46) rfl ?_
    show Steps p.tables e below (T2.setTop (mkF m 48 #[.val (.int p0), .val (.int p1), .val (.int p2), .val (.int p3), .val (.int p4), .val (.int p5), .val (.int (p0 &&& (2147483647 : Int32))), .val (.int (p1 &&& (2147483647 : Int32))), .val (.int rr_1), .val (.int rr_2), .val (.int ((p2 &&& (1073741823 : Int32)) + (1 : Int32))), .val (.int ((p3 &&& (1073741823 : Int32)) + (1 : Int32))), .unset, .unset, .unset, .unset, .unset, .unset, .unset, .unset, .unset, .unset, .unset, .unset, .unset, .unset, .unset, .unset, .unset, .unset] [(.int ((p2 &&& (1073741823 : Int32)) + (1 : Int32)))])) _
    refine XS.iload X2.here hx rfl (hb hby at_48) rfl ?_
    show Steps p.tables e below (T2.setTop (mkF m 50 #[.val (.int p0), .val (.int p1), .val (.int p2), .val (.int p3), .val (.int p4), .val (.int p5), .val (.int (p0 &&& (2147483647 : Int32))), .val (.int (p1 &&& (2147483647 : Int32))), .val (.int rr_1), .val (.int rr_2), .val (.int ((p2 &&& (1073741823 : Int32)) + (1 : Int32))), .val (.int ((p3 &&& (1073741823 : Int32)) + (1 : Int32))), .unset, .unset, .unset, .unset, .unset, .unset, .unset, .unset, .unset, .unset, .unset, .unset, .unset, .unset, .unset, .unset, .unset, .unset] [(.int ((p3 &&& (1073741823 : Int32)) + (1 : Int32))), (.int ((p2 &&& (1073741823 : Int32)) + (1 : Int32)))])) _
    refine st3 _ ?_
    show Steps p.tables e below (T3.setTop (mkF m 53 #[.val (.int p0), .val (.int p1), .val (.int p2), .val (.int p3), .val (.int p4), .val (.int p5), .val (.int (p0 &&& (2147483647 : Int32))), .val (.int (p1 &&& (2147483647 : Int32))), .val (.int rr_1), .val (.int rr_2), .val (.int ((p2 &&& (1073741823 : Int32)) + (1 : Int32))), .val (.int ((p3 &&& (1073741823 : Int32)) + (1 : Int32))), .unset, .unset, .unset, .unset, .unset, .unset, .unset, .unset, .unset, .unset, .unset, .unset, .unset, .unset, .unset, .unset, .unset, .unset] [(.int rr_3)])) _
    refine XS.istore X3.here hx rfl (hb hby at_53) rfl (l' := #[.val (.int p0), .val (.int p1), .val (.int p2), .val (.int p3), .val (.int p4), .val (.int p5), .val (.int (p0 &&& (2147483647 : Int32))), .val (.int (p1 &&& (2147483647 : Int32))), .val (.int rr_1), .val (.int rr_2), .val (.int ((p2 &&& (1073741823 : Int32)) + (1 : Int32))), .val (.int ((p3 &&& (1073741823 : Int32)) + (1 : Int32))), .val (.int rr_3), .unset, .unset, .unset, .unset, .unset, .unset, .unset, .unset, .unset, .unset, .unset, .unset, .unset, .unset, .unset, .unset, .unset]) rfl ?_
    show Steps p.tables e below (T3.setTop (mkF m 55 #[.val (.int p0), .val (.int p1), .val (.int p2), .val (.int p3), .val (.int p4), .val (.int p5), .val (.int (p0 &&& (2147483647 : Int32))), .val (.int (p1 &&& (2147483647 : Int32))), .val (.int rr_1), .val (.int rr_2), .val (.int ((p2 &&& (1073741823 : Int32)) + (1 : Int32))), .val (.int ((p3 &&& (1073741823 : Int32)) + (1 : Int32))), .val (.int rr_3), .unset, .unset, .unset, .unset, .unset, .unset, .unset, .unset, .unset, .unset, .unset, .unset, .unset, .unset, .unset, .unset, .unset] [])) _
    refine XS.iload X3.here hx rfl (hb hby at_55) rfl ?_
    show Steps p.tables e below (T3.setTop (mkF m 57 #[.val (.int p0), .val (.int p1), .val (.int p2), .val (.int p3), .val (.int p4), .val (.int p5), .val (.int (p0 &&& (2147483647 : Int32))), .val (.int (p1 &&& (2147483647 : Int32))), .val (.int rr_1), .val (.int rr_2), .val (.int ((p2 &&& (1073741823 : Int32)) + (1 : Int32))), .val (.int ((p3 &&& (1073741823 : Int32)) + (1 : Int32))), .val (.int rr_3), .unset, .unset, .unset, .unset, .unset, .unset, .unset, .unset, .unset, .unset, .unset, .unset, .unset, .unset, .unset, .unset, .unset] [(.int ((p2 &&& (1073741823 : Int32)) + (1 : Int32)))])) _
    refine XS.iload X3.here hx rfl (hb hby at_57) rfl ?_
    show Steps p.tables e below (T3.setTop (mkF m 59 #[.val (.int p0), .val (.int p1), .val (.int p2), .val (.int p3), .val (.int p4), .val (.int p5), .val (.int (p0 &&& (2147483647 : Int32))), .val (.int (p1 &&& (2147483647 : Int32))), .val (.int rr_1), .val (.int rr_2), .val (.int ((p2 &&& (1073741823 : Int32)) + (1 : Int32))), .val (.int ((p3 &&& (1073741823 : Int32)) + (1 : Int32))), .val (.int rr_3), .unset, .unset, .unset, .unset, .unset, .unset, .unset, .unset, .unset, .unset, .unset, .unset, .unset, .unset, .unset, .unset, .unset] [(.int ((p3 &&& (1073741823 : Int32)) + (1 : Int32))), (.int ((p2 &&& (1073741823 : Int32)) + (1 : Int32)))])) _
    refine st4 _ ?_
    show Steps p.tables e below (T4.setTop (mkF m 62 #[.val (.int p0), .val (.int p1), .val (.int p2), .val (.int p3), .val (.int p4), .val (.int p5), .val (.int (p0 &&& (2147483647 : Int32))), .val (.int (p1 &&& (2147483647 : Int32))), .val (.int rr_1), .val (.int rr_2), .val (.int ((p2 &&& (1073741823 : Int32)) + (1 : Int32))), .val (.int ((p3 &&& (1073741823 : Int32)) + (1 : Int32))), .val (.int rr_3), .unset, .unset, .unset, .unset, .unset, .unset, .unset, .unset, .unset, .unset, .unset, .unset, .unset, .unset, .unset, .unset, .unset] [(.int rr_4)])) _
    refine XS.istore X4.here hx rfl (hb hby at_62) rfl (l' := #[.val (.int p0), .val (.int p1), .val (.int p2), .val (.int p3), .val (.int p4), .val (.int p5), .val (.int (p0 &&& (2147483647 : Int32))), .val (.int (p1 &&& (2147483647 : Int32))), .val (.int rr_1), .val (.int rr_2), .val (.int ((p2 &&& (1073741823 : Int32)) + (1 : Int32))), .val (.int ((p3 &&& (1073741823 : Int32)) + (1 : Int32))), .val (.int rr_3), .val (.int rr_4), .unset, .unset, .unset, .unset, .unset, .unset, .unset, .unset, .unset, .unset, .unset, .unset, .unset, .unset, .unset, .unset]) rfl ?_
    show Steps p.tables e below (T4.setTop (mkF m 64 #[.val (.int p0), .val (.int p1), .val (.int p2), .val (.int p3), .val (.int p4), .val (.int p5), .val (.int (p0 &&& (2147483647 : Int32))), .val (.int (p1 &&& (2147483647 : Int32))), .val (.int rr_1), .val (.int rr_2), .val (.int ((p2 &&& (1073741823 : Int32)) + (1 : Int32))), .val (.int ((p3 &&& (1073741823 : Int32)) + (1 : Int32))), .val (.int rr_3), .val (.int rr_4), .unset, .unset, .unset, .unset, .unset, .unset, .unset, .unset, .unset, .unset, .unset, .unset, .unset, .unset, .unset, .unset] [])) _
    refine XS.iload X4.here hx rfl (hb hby at_64) rfl ?_
    show Steps p.tables e below (T4.setTop (mkF m 66 #[.val (.int p0), .val (.int p1), .val (.int p2), .val (.int p3), .val (.int p4), .val (.int p5), .val (.int (p0 &&& (2147483647 : Int32))), .val (.int (p1 &&& (2147483647 : Int32))), .val (.int rr_1), .val (.int rr_2), .val (.int ((p2 &&& (1073741823 : Int32)) + (1 : Int32))), .val (.int ((p3 &&& (1073741823 : Int32)) + (1 : Int32))), .val (.int rr_3), .val (.int rr_4), .unset, .unset, .unset, .unset, .unset, .unset, .unset, .unset, .unset, .unset, .unset, .unset, .unset, .unset, .unset, .unset] [(.int rr_1)])) _
    refine XS.i2dS X4.here hx rfl (hb hby at_66) rfl (v := FP.i2d rr_1) rfl ?_
    show Steps p.tables e below (T4.setTop (mkF m 67 #[.val (.int p0), .val (.int p1), .val (.int p2), .val (.int p3), .val (.int p4), .val (.int p5), .val (.int (p0 &&& (2147483647 : Int32))), .val (.int (p1 &&& (2147483647 : Int32))), .val (.int rr_1), .val (.int rr_2), .val (.int ((p2 &&& (1073741823 : Int32)) + (1 : Int32))), .val (.int ((p3 &&& (1073741823 : Int32)) + (1 : Int32))), .val (.int rr_3), .val (.int rr_4), .unset, .unset, .unset, .unset, .unset, .unset, .unset, .unset, .unset, .unset, .unset, .unset, .unset, .unset, .unset, .unset] [(.double (FP.i2d rr_1))])) _
    refine XS.iload X4.here hx rfl (hb hby at_67) rfl ?_
    show Steps p.tables e below (T4.setTop (mkF m 69 #[.val (.int p0), .val (.int p1), .val (.int p2), .val (.int p3), .val (.int p4), .val (.int p5), .val (.int (p0 &&& (2147483647 : Int32))), .val (.int (p1 &&& (2147483647 : Int32))), .val (.int rr_1), .val (.int rr_2), .val (.int ((p2 &&& (1073741823 : Int32)) + (1 : Int32))), .val (.int ((p3 &&& (1073741823 : Int32)) + (1 : Int32))), .val (.int rr_3), .val (.int rr_4), .unset, .unset, .unset, .unset, .unset, .unset, .unset, .unset, .unset, .unset, .unset, .unset, .unset, .unset, .unset, .unset] [(.int rr_3), (.double (FP.i2d rr_1))])) _
    refine XS.i2dS X4.here hx rfl (hb hby at_69) rfl (v := FP.i2d rr_3) rfl ?_
    show Steps p.tables e below (T4.setTop (mkF m 70 #[.val (.int p0), .val (.int p1), .val (.int p2), .val (.int p3), .val (.int p4), .val (.int p5), .val (.int (p0 &&& (2147483647 : Int32))), .val (.int (p1 &&& (2147483647 : Int32))), .val (.int rr_1), .val (.int rr_2), .val (.int ((p2 &&& (1073741823 : Int32)) + (1 : Int32))), .val (.int ((p3 &&& (1073741823 : Int32)) + (1 : Int32))), .val (.int rr_3), .val (.int rr_4), .unset, .unset, .unset, .unset, .unset, .unset, .unset, .unset, .unset, .unset, .unset, .unset, .unset, .unset, .unset, .unset] [(.double (FP.i2d rr_3)), (.double (FP.i2d rr_1))])) _
    refine st5 _ ?_
    show Steps p.tables e below (T5.setTop (mkF m 73 #[.val (.int p0), .val (.int p1), .val (.int p2), .val (.int p3), .val (.int p4), .val (.int p5), .val (.int (p0 &&& (2147483647 : Int32))), .val (.int (p1 &&& (2147483647 : Int32))), .val (.int rr_1), .val (.int rr_2), .val (.int ((p2 &&& (1073741823 : Int32)) + (1 : Int32))), .val (.int ((p3 &&& (1073741823 : Int32)) + (1 : Int32))), .val (.int rr_3), .val (.int rr_4), .unset, .unset, .unset, .unset, .unset, .unset, .unset, .unset, .unset, .unset, .unset, .unset, .unset, .unset, .unset, .unset] [(.double (FP.dmul (4608083138725491507 : UInt64) (FP.dadd (4598175219545276416 : UInt64) (FP.ddiv (FP.dmul (4604930618986332160 : UInt64) (FP.i2d rr_1)) (FP.i2d rr_3)))))])) _
    refine XS.dstore X5.here hx rfl (hb hby at_73) rfl (l' := #[.val (.int p0), .val (.int p1), .val (.int p2), .val (.int p3), .val (.int p4), .val (.int p5), .val (.int (p0 &&& (2147483647 : Int32))), .val (.int (p1 &&& (2147483647 : Int32))), .val (.int rr_1), .val (.int rr_2), .val (.int ((p2 &&& (1073741823 : Int32)) + (1 : Int32))), .val (.int ((p3 &&& (1073741823 : Int32)) + (1 : Int32))), .val (.int rr_3), .val (.int rr_4), .val (.double (FP.dmul (4608083138725491507 : UInt64) (FP.dadd (4598175219545276416 : UInt64) (FP.ddiv (FP.dmul (4604930618986332160 : UInt64) (FP.i2d rr_1)) (FP.i2d rr_3))))), .second, .unset, .unset, .unset, .unset, .unset, .unset, .unset, .unset, .unset, .unset, .unset, .unset, .unset, .unset]) rfl ?_
    show Steps p.tables e below (T5.setTop (mkF m 75 #[.val (.int p0), .val (.int p1), .val (.int p2), .val (.int p3), .val (.int p4), .val (.int p5), .val (.int (p0 &&& (2147483647 : Int32))), .val (.int (p1 &&& (2147483647 : Int32))), .val (.int rr_1), .val (.int rr_2), .val (.int ((p2 &&& (1073741823 : Int32)) + (1 : Int32))), .val (.int ((p3 &&& (1073741823 : Int32)) + (1 : Int32))), .val (.int rr_3), .val (.int rr_4), .val (.double (FP.dmul (4608083138725491507 : UInt64) (FP.dadd (4598175219545276416 : UInt64) (FP.ddiv (FP.dmul (4604930618986332160 : UInt64) (FP.i2d rr_1)) (FP.i2d rr_3))))), .second, .unset, .unset, .unset, .unset, .unset, .unset, .unset, .unset, .unset, .unset, .unset, .unset, .unset, .unset] [])) _
    refine XS.iload X5.here hx rfl (hb hby at_75) rfl ?_
    show Steps p.tables e below (T5.setTop (mkF m 77 #[.val (.int p0), .val (.int p1), .val (.int p2), .val (.int p3), .val (.int p4), .val (.int p5), .val (.int (p0 &&& (2147483647 : Int32))), .val (.int (p1 &&& (2147483647 : Int32))), .val (.int rr_1), .val (.int rr_2), .val (.int ((p2 &&& (1073741823 : Int32)) + (1 : Int32))), .val (.int ((p3 &&& (1073741823 : Int32)) + (1 : Int32))), .val (.int rr_3), .val (.int rr_4), .val (.double (FP.dmul (4608083138725491507 : UInt64) (FP.dadd (4598175219545276416 : UInt64) (FP.ddiv (FP.dmul (4604930618986332160 : UInt64) (FP.i2d rr_1)) (FP.i2d rr_3))))), .second, .unset, .unset, .unset, .unset, .unset, .unset, .unset, .unset, .unset, .unset, .unset, .unset, .unset, .unset] [(.int rr_2)])) _
    refine XS.i2dS X5.here hx rfl (hb hby at_77) rfl (v := FP.i2d rr_2) rfl ?_
    show Steps p.tables e below (T5.setTop (mkF m 78 #[.val (.int p0), .val (.int p1), .val (.int p2), .val (.int p3), .val (.int p4), .val (.int p5), .val (.int (p0 &&& (2147483647 : Int32))), .val (.int (p1 &&& (2147483647 : Int32))), .val (.int rr_1), .val (.int rr_2), .val (.int ((p2 &&& (1073741823 : Int32)) + (1 : Int32))), .val (.int ((p3 &&& (1073741823 : Int32)) + (1 : Int32))), .val (.int rr_3), .val (.int rr_4), .val (.double (FP.dmul (4608083138725491507 : UInt64) (FP.dadd (4598175219545276416 : UInt64) (FP.ddiv (FP.dmul (4604930618986332160 : UInt64) (FP.i2d rr_1)) (FP.i2d rr_3))))), .second, .unset, .unset, .unset, .unset, .unset, .unset, .unset, .unset, .unset, .unset, .unset, .unset, .unset, .unset] [(.double (FP.i2d rr_2))])) _
    refine XS.iload X5.here hx rfl (hb hby at_78) rfl ?_
    show Steps p.tables e below (T5.setTop (mkF m 80 #[.val (.int p0), .val (.int p1), .val (.int p2), .val (.int p3), .val (.int p4), .val (.int p5), .val (.int (p0 &&& (2147483647 : Int32))), .val (.int (p1 &&& (2147483647 : Int32))), .val (.int rr_1), .val (.int rr_2), .val (.int ((p2 &&& (1073741823 : Int32)) + (1 : Int32))), .val (.int ((p3 &&& (1073741823 : Int32)) + (1 : Int32))), .val (.int rr_3), .val (.int rr_4), .val (.double (FP.dmul (4608083138725491507 : UInt64) (FP.dadd (4598175219545276416 : UInt64) (FP.ddiv (FP.dmul (4604930618986332160 : UInt64) (FP.i2d rr_1)) (FP.i2d rr_3))))), .second, .unset, .unset, .unset, .unset, .unset, .unset, .unset, .unset, .unset, .unset, .unset, .unset, .unset, .unset] [(.int rr_3), (.double (FP.i2d rr_2))])) _
    refine XS.i2dS X5.here hx rfl (hb hby at_80) rfl (v := FP.i2d rr_3) rfl ?_
    show Steps p.tables e below (T5.setTop (mkF m 81 #[.val (.int p0), .val (.int p1), .val (.int p2), .val (.int p3), .val (.int p4), .val (.int p5), .val (.int (p0 &&& (2147483647 : Int32))), .val (.int (p1 &&& (2147483647 : Int32))), .val (.int rr_1), .val (.int rr_2), .val (.int ((p2 &&& (1073741823 : Int32)) + (1 : Int32))), .val (.int ((p3 &&& (1073741823 : Int32)) + (1 : Int32))), .val (.int rr_3), .val (.int rr_4), .val (.double (FP.dmul (4608083138725491507 : UInt64) (FP.dadd (4598175219545276416 : UInt64) (FP.ddiv (FP.dmul (4604930618986332160 : UInt64) (FP.i2d rr_1)) (FP.i2d rr_3))))), .second, .unset, .unset, .unset, .unset, .unset, .unset, .unset, .unset, .unset, .unset, .unset, .unset, .unset, .unset] [(.double (FP.i2d rr_3)), (.double (FP.i2d rr_2))])) _
    refine st6 _ ?_
    show Steps p.tables e below (T6.setTop (mkF m 84 #[.val (.int p0), .val (.int p1), .val (.int p2), .val (.int p3), .val (.int p4), .val (.int p5), .val (.int (p0 &&& (2147483647 : Int32))), .val (.int (p1 &&& (2147483647 : Int32))), .val (.int rr_1), .val (.int rr_2), .val (.int ((p2 &&& (1073741823 : Int32)) + (1 : Int32))), .val (.int ((p3 &&& (1073741823 : Int32)) + (1 : Int32))), .val (.int rr_3), .val (.int rr_4), .val (.double (FP.dmul (4608083138725491507 : UInt64) (FP.dadd (4598175219545276416 : UInt64) (FP.ddiv (FP.dmul (4604930618986332160 : UInt64) (FP.i2d rr_1)) (FP.i2d rr_3))))), .second, .unset, .unset, .unset, .unset, .unset, .unset, .unset, .unset, .unset, .unset, .unset, .unset, .unset, .unset] [(.double (FP.dmul (4608083138725491507 : UInt64) (FP.dadd (4598175219545276416 : UInt64) (FP.ddiv (FP.dmul (4604930618986332160 : UInt64) (FP.i2d rr_2)) (FP.i2d rr_3)))))])) _
    refine XS.dstore X6.here hx rfl (hb hby at_84) rfl (l' := #[.val (.int p0), .val (.int p1), .val (.int p2), .val (.int p3), .val (.int p4), .val (.int p5), .val (.int (p0 &&& (2147483647 : Int32))), .val (.int (p1 &&& (2147483647 : Int32))), .val (.int rr_1), .val (.int rr_2), .val (.int ((p2 &&& (1073741823 : Int32)) + (1 : Int32))), .val (.int ((p3 &&& (1073741823 : Int32)) + (1 : Int32))), .val (.int rr_3), .val (.int rr_4), .val (.double (FP.dmul (4608083138725491507 : UInt64) (FP.dadd (4598175219545276416 : UInt64) (FP.ddiv (FP.dmul (4604930618986332160 : UInt64) (FP.i2d rr_1)) (FP.i2d rr_3))))), .second, .val (.double (FP.dmul (4608083138725491507 : UInt64) (FP.dadd (4598175219545276416 : UInt64) (FP.ddiv (FP.dmul (4604930618986332160 : UInt64) (FP.i2d rr_2)) (FP.i2d rr_3))))), .second, .unset, .unset, .unset, .unset, .unset, .unset, .unset, .unset, .unset, .unset, .unset, .unset]) rfl ?_
    show Steps p.tables e below (T6.setTop (mkF m 86 #[.val (.int p0), .val (.int p1), .val (.int p2), .val (.int p3), .val (.int p4), .val (.int p5), .val (.int (p0 &&& (2147483647 : Int32))), .val (.int (p1 &&& (2147483647 : Int32))), .val (.int rr_1), .val (.int rr_2), .val (.int ((p2 &&& (1073741823 : Int32)) + (1 : Int32))), .val (.int ((p3 &&& (1073741823 : Int32)) + (1 : Int32))), .val (.int rr_3), .val (.int rr_4), .val (.double (FP.dmul (4608083138725491507 : UInt64) (FP.dadd (4598175219545276416 : UInt64) (FP.ddiv (FP.dmul (4604930618986332160 : UInt64) (FP.i2d rr_1)) (FP.i2d rr_3))))), .second, .val (.double (FP.dmul (4608083138725491507 : UInt64) (FP.dadd (4598175219545276416 : UInt64) (FP.ddiv (FP.dmul (4604930618986332160 : UInt64) (FP.i2d rr_2)) (FP.i2d rr_3))))), .second, .unset, .unset, .unset, .unset, .unset, .unset, .unset, .unset, .unset, .unset, .unset, .unset] [])) _
    refine XS.iload X6.here hx rfl (hb hby at_86) rfl ?_
    show Steps p.tables e below (T6.setTop (mkF m 88 #[.val (.int p0), .val (.int p1), .val (.int p2), .val (.int p3), .val (.int p4), .val (.int p5), .val (.int (p0 &&& (2147483647 : Int32))), .val (.int (p1 &&& (2147483647 : Int32))), .val (.int rr_1), .val (.int rr_2), .val (.int ((p2 &&& (1073741823 : Int32)) + (1 : Int32))), .val (.int ((p3 &&& (1073741823 : Int32)) + (1 : Int32))), .val (.int rr_3), .val (.int rr_4), .val (.double (FP.dmul (4608083138725491507 : UInt64) (FP.dadd (4598175219545276416 : UInt64) (FP.ddiv (FP.dmul (4604930618986332160 : UInt64) (FP.i2d rr_1)) (FP.i2d rr_3))))), .second, .val (.double (FP.dmul (4608083138725491507 : UInt64) (FP.dadd (4598175219545276416 : UInt64) (FP.ddiv (FP.dmul (4604930618986332160 : UInt64) (FP.i2d rr_2)) (FP.i2d rr_3))))), .second, .unset, .unset, .unset, .unset, .unset, .unset, .unset, .unset, .unset, .unset, .unset, .unset] [(.int rr_1)])) _
    refine XS.i2dS X6.here hx rfl (hb hby at_88) rfl (v := FP.i2d rr_1) rfl ?_
    show Steps p.tables e below (T6.setTop (mkF m 89 #[.val (.int p0), .val (.int p1), .val (.int p2), .val (.int p3), .val (.int p4), .val (.int p5), .val (.int (p0 &&& (2147483647 : Int32))), .val (.int (p1 &&& (2147483647 : Int32))), .val (.int rr_1), .val (.int rr_2), .val (.int ((p2 &&& (1073741823 : Int32)) + (1 : Int32))), .val (.int ((p3 &&& (1073741823 : Int32)) + (1 : Int32))), .val (.int rr_3), .val (.int rr_4), .val (.double (FP.dmul (4608083138725491507 : UInt64) (FP.dadd (4598175219545276416 : UInt64) (FP.ddiv (FP.dmul (4604930618986332160 : UInt64) (FP.i2d rr_1)) (FP.i2d rr_3))))), .second, .val (.double (FP.dmul (4608083138725491507 : UInt64) (FP.dadd (4598175219545276416 : UInt64) (FP.ddiv (FP.dmul (4604930618986332160 : UInt64) (FP.i2d rr_2)) (FP.i2d rr_3))))), .second, .unset, .unset, .unset, .unset, .unset, .unset, .unset, .unset, .unset, .unset, .unset, .unset] [(.double (FP.i2d rr_1))])) _
    refine XS.iload X6.here hx rfl (hb hby at_89) rfl ?_
    show Steps p.tables e below (T6.setTop (mkF m 91 #[.val (.int p0), .val (.int p1), .val (.int p2), .val (.int p3), .val (.int p4), .val (.int p5), .val (.int (p0 &&& (2147483647 : Int32))), .val (.int (p1 &&& (2147483647 : Int32))), .val (.int rr_1), .val (.int rr_2), .val (.int ((p2 &&& (1073741823 : Int32)) + (1 : Int32))), .val (.int ((p3 &&& (1073741823 : Int32)) + (1 : Int32))), .val (.int rr_3), .val (.int rr_4), .val (.double (FP.dmul (4608083138725491507 : UInt64) (FP.dadd (4598175219545276416 : UInt64) (FP.ddiv (FP.dmul (4604930618986332160 : UInt64) (FP.i2d rr_1)) (FP.i2d rr_3))))), .second, .val (.double (FP.dmul (4608083138725491507 : UInt64) (FP.dadd (4598175219545276416 : UInt64) (FP.ddiv (FP.dmul (4604930618986332160 : UInt64) (FP.i2d rr_2)) (FP.i2d rr_3))))), .second, .unset, .unset, .unset, .unset, .unset, .unset, .unset, .unset, .unset, .unset, .unset, .unset] [(.int rr_4), (.double (FP.i2d rr_1))])) _
    refine XS.i2dS X6.here hx rfl (hb hby at_91) rfl (v := FP.i2d rr_4) rfl ?_
    show Steps p.tables e below (T6.setTop (mkF m 92 #[.val (.int p0), .val (.int p1), .val (.int p2), .val (.int p3), .val (.int p4), .val (.int p5), .val (.int (p0 &&& (2147483647 : Int32))), .val (.int (p1 &&& (2147483647 : Int32))), .val (.int rr_1), .val (.int rr_2), .val (.int ((p2 &&& (1073741823 : Int32)) + (1 : Int32))), .val (.int ((p3 &&& (1073741823 : Int32)) + (1 : Int32))), .val (.int rr_3), .val (.int rr_4), .val (.double (FP.dmul (4608083138725491507 : UInt64) (FP.dadd (4598175219545276416 : UInt64) (FP.ddiv (FP.dmul (4604930618986332160 : UInt64) (FP.i2d rr_1)) (FP.i2d rr_3))))), .second, .val (.double (FP.dmul (4608083138725491507 : UInt64) (FP.dadd (4598175219545276416 : UInt64) (FP.ddiv (FP.dmul (4604930618986332160 : UInt64) (FP.i2d rr_2)) (FP.i2d rr_3))))), .second, .unset, .unset, .unset, .unset, .unset, .unset, .unset, .unset, .unset, .unset, .unset, .unset] [(.double (FP.i2d rr_4)), (.double (FP.i2d rr_1))])) _
    refine st7 _ ?_
    show Steps p.tables e below (T7.setTop (mkF m 95 #[.val (.int p0), .val (.int p1), .val (.int p2), .val (.int p3), .val (.int p4), .val (.int p5), .val (.int (p0 &&& (2147483647 : Int32))), .val (.int (p1 &&& (2147483647 : Int32))), .val (.int rr_1), .val (.int rr_2), .val (.int ((p2 &&& (1073741823 : Int32)) + (1 : Int32))), .val (.int ((p3 &&& (1073741823 : Int32)) + (1 : Int32))), .val (.int rr_3), .val (.int rr_4), .val (.double (FP.dmul (4608083138725491507 : UInt64) (FP.dadd (4598175219545276416 : UInt64) (FP.ddiv (FP.dmul (4604930618986332160 : UInt64) (FP.i2d rr_1)) (FP.i2d rr_3))))), .second, .val (.double (FP.dmul (4608083138725491507 : UInt64) (FP.dadd (4598175219545276416 : UInt64) (FP.ddiv (FP.dmul (4604930618986332160 : UInt64) (FP.i2d rr_2)) (FP.i2d rr_3))))), .second, .unset, .unset, .unset, .unset, .unset, .unset, .unset, .unset, .unset, .unset, .unset, .unset] [(.double (FP.dmul (4608083138725491507 : UInt64) (FP.dadd (4598175219545276416 : UInt64) (FP.ddiv (FP.dmul (4604930618986332160 : UInt64) (FP.i2d rr_1)) (FP.i2d rr_4)))))])) _
    refine XS.dstore X7.here hx rfl (hb hby at_95) rfl (l' := #[.val (.int p0), .val (.int p1), .val (.int p2), .val (.int p3), .val (.int p4), .val (.int p5), .val (.int (p0 &&& (2147483647 : Int32))), .val (.int (p1 &&& (2147483647 : Int32))), .val (.int rr_1), .val (.int rr_2), .val (.int ((p2 &&& (1073741823 : Int32)) + (1 : Int32))), .val (.int ((p3 &&& (1073741823 : Int32)) + (1 : Int32))), .val (.int rr_3), .val (.int rr_4), .val (.double (FP.dmul (4608083138725491507 : UInt64) (FP.dadd (4598175219545276416 : UInt64) (FP.ddiv (FP.dmul (4604930618986332160 : UInt64) (FP.i2d rr_1)) (FP.i2d rr_3))))), .second, .val (.double (FP.dmul (4608083138725491507 : UInt64) (FP.dadd (4598175219545276416 : UInt64) (FP.ddiv (FP.dmul (4604930618986332160 : UInt64) (FP.i2d rr_2)) (FP.i2d rr_3))))), .second, .val (.double (FP.dmul (4608083138725491507 : UInt64) (FP.dadd (4598175219545276416 : UInt64) (FP.ddiv (FP.dmul (4604930618986332160 : UInt64) (FP.i2d rr_1)) (FP.i2d rr_4))))), .second, .unset, .unset, .unset, .unset, .unset, .unset, .unset, .unset, .unset, .unset]) rfl ?_
    show Steps p.tables e below (T7.setTop (mkF m 97 #[.val (.int p0), .val (.int p1), .val (.int p2), .val (.int p3), .val (.int p4), .val (.int p5), .val (.int (p0 &&& (2147483647 : Int32))), .val (.int (p1 &&& (2147483647 : Int32))), .val (.int rr_1), .val (.int rr_2), .val (.int ((p2 &&& (1073741823 : Int32)) + (1 : Int32))), .val (.int ((p3 &&& (1073741823 : Int32)) + (1 : Int32))), .val (.int rr_3), .val (.int rr_4), .val (.double (FP.dmul (4608083138725491507 : UInt64) (FP.dadd (4598175219545276416 : UInt64) (FP.ddiv (FP.dmul (4604930618986332160 : UInt64) (FP.i2d rr_1)) (FP.i2d rr_3))))), .second, .val (.double (FP.dmul (4608083138725491507 : UInt64) (FP.dadd (4598175219545276416 : UInt64) (FP.ddiv (FP.dmul (4604930618986332160 : UInt64) (FP.i2d rr_2)) (FP.i2d rr_3))))), .second, .val (.double (FP.dmul (4608083138725491507 : UInt64) (FP.dadd (4598175219545276416 : UInt64) (FP.ddiv (FP.dmul (4604930618986332160 : UInt64) (FP.i2d rr_1)) (FP.i2d rr_4))))), .second, .unset, .unset, .unset, .unset, .unset, .unset, .unset, .unset, .unset, .unset] [])) _
    refine XS.dload X7.here hx rfl (hb hby at_97) rfl ?_
    show Steps p.tables e below (T7.setTop (mkF m 99 #[.val (.int p0), .val (.int p1), .val (.int p2), .val (.int p3), .val (.int p4), .val (.int p5), .val (.int (p0 &&& (2147483647 : Int32))), .val (.int (p1 &&& (2147483647 : Int32))), .val (.int rr_1), .val (.int rr_2), .val (.int ((p2 &&& (1073741823 : Int32)) + (1 : Int32))), .val (.int ((p3 &&& (1073741823 : Int32)) + (1 : Int32))), .val (.int rr_3), .val (.int rr_4), .val (.double (FP.dmul (4608083138725491507 : UInt64) (FP.dadd (4598175219545276416 : UInt64) (FP.ddiv (FP.dmul (4604930618986332160 : UInt64) (FP.i2d rr_1)) (FP.i2d rr_3))))), .second, .val (.double (FP.dmul (4608083138725491507 : UInt64) (FP.dadd (4598175219545276416 : UInt64) (FP.ddiv (FP.dmul (4604930618986332160 : UInt64) (FP.i2d rr_2)) (FP.i2d rr_3))))), .second, .val (.double (FP.dmul (4608083138725491507 : UInt64) (FP.dadd (4598175219545276416 : UInt64) (FP.ddiv (FP.dmul (4604930618986332160 : UInt64) (FP.i2d rr_1)) (FP.i2d rr_4))))), .second, .unset, .unset, .unset, .unset, .unset, .unset, .unset, .unset, .unset, .unset] [(.double (FP.dmul (4608083138725491507 : UInt64) (FP.dadd (4598175219545276416 : UInt64) (FP.ddiv (FP.dmul (4604930618986332160 : UInt64) (FP.i2d rr_1)) (FP.i2d rr_3)))))])) _
    refine XS.dload X7.here hx rfl (hb hby at_99) rfl ?_
    show Steps p.tables e below (T7.setTop (mkF m 101 #[.val (.int p0), .val (.int p1), .val (.int p2), .val (.int p3), .val (.int p4), .val (.int p5), .val (.int (p0 &&& (2147483647 : Int32))), .val (.int (p1 &&& (2147483647 : Int32))), .val (.int rr_1), .val (.int rr_2), .val (.int ((p2 &&& (1073741823 : Int32)) + (1 : Int32))), .val (.int ((p3 &&& (1073741823 : Int32)) + (1 : Int32))), .val (.int rr_3), .val (.int rr_4), .val (.double (FP.dmul (4608083138725491507 : UInt64) (FP.dadd (4598175219545276416 : UInt64) (FP.ddiv (FP.dmul (4604930618986332160 : UInt64) (FP.i2d rr_1)) (FP.i2d rr_3))))), .second, .val (.double (FP.dmul (4608083138725491507 : UInt64) (FP.dadd (4598175219545276416 : UInt64) (FP.ddiv (FP.dmul (4604930618986332160 : UInt64) (FP.i2d rr_2)) (FP.i2d rr_3))))), .second, .val (.double (FP.dmul (4608083138725491507 : UInt64) (FP.dadd (4598175219545276416 : UInt64) (FP.ddiv (FP.dmul (4604930618986332160 : UInt64) (FP.i2d rr_1)) (FP.i2d rr_4))))), .second, .unset, .unset, .unset, .unset, .unset, .unset, .unset, .unset, .unset, .unset] [(.double (FP.dmul (4608083138725491507 : UInt64) (FP.dadd (4598175219545276416 : UInt64) (FP.ddiv (FP.dmul (4604930618986332160 : UInt64) (FP.i2d rr_2)) (FP.i2d rr_3))))), (.double (FP.dmul (4608083138725491507 : UInt64) (FP.dadd (4598175219545276416 : UInt64) (FP.ddiv (FP.dmul (4604930618986332160 : UInt64) (FP.i2d rr_1)) (FP.i2d rr_3)))))])) _
    refine XS.dcmpS X7.here hx rfl (hb hby at_101) rfl (v := (cmpValue (FP.dcmp (FP.dmul (4608083138725491507 : UInt64) (FP.dadd (4598175219545276416 : UInt64) (FP.ddiv (FP.dmul (4604930618986332160 : UInt64) (FP.i2d rr_1)) (FP.i2d rr_3)))) (FP.dmul (4608083138725491507 : UInt64) (FP.dadd (4598175219545276416 : UInt64) (FP.ddiv (FP.dmul (4604930618986332160 : UInt64) (FP.i2d rr_2)) (FP.i2d rr_3))))) .g)) rfl ?_
    show Steps p.tables e below (T7.setTop (mkF m 102 #[.val (.int p0), .val (.int p1), .val (.int p2), .val (.int p3), .val (.int p4), .val (.int p5), .val (.int (p0 &&& (2147483647 : Int32))), .val (.int (p1 &&& (2147483647 : Int32))), .val (.int rr_1), .val (.int rr_2), .val (.int ((p2 &&& (1073741823 : Int32)) + (1 : Int32))), .val (.int ((p3 &&& (1073741823 : Int32)) + (1 : Int32))), .val (.int rr_3), .val (.int rr_4), .val (.double (FP.dmul (4608083138725491507 : UInt64) (FP.dadd (4598175219545276416 : UInt64) (FP.ddiv (FP.dmul (4604930618986332160 : UInt64) (FP.i2d rr_1)) (FP.i2d rr_3))))), .second, .val (.double (FP.dmul (4608083138725491507 : UInt64) (FP.dadd (4598175219545276416 : UInt64) (FP.ddiv (FP.dmul (4604930618986332160 : UInt64) (FP.i2d rr_2)) (FP.i2d rr_3))))), .second, .val (.double (FP.dmul (4608083138725491507 : UInt64) (FP.dadd (4598175219545276416 : UInt64) (FP.ddiv (FP.dmul (4604930618986332160 : UInt64) (FP.i2d rr_1)) (FP.i2d rr_4))))), .second, .unset, .unset, .unset, .unset, .unset, .unset, .unset, .unset, .unset, .unset] [(.int (cmpValue (FP.dcmp (FP.dmul (4608083138725491507 : UInt64) (FP.dadd (4598175219545276416 : UInt64) (FP.ddiv (FP.dmul (4604930618986332160 : UInt64) (FP.i2d rr_1)) (FP.i2d rr_3)))) (FP.dmul (4608083138725491507 : UInt64) (FP.dadd (4598175219545276416 : UInt64) (FP.ddiv (FP.dmul (4604930618986332160 : UInt64) (FP.i2d rr_2)) (FP.i2d rr_3))))) .g))])) _
    refine XS.ifNo X7.here hx rfl (hb hby at_102) rfl ((if0 _ _).trans (flt (own_cle (own_fF _ _ hL.1 hA.1).1.ne (own_fF _ _ hL.2.2 hA.1).1.ne (own_mono hL.1 hL.2.1 hA.1 (Int.le_refl _)) .g)).2.2.1) ?_
    show Steps p.tables e below (T7.setTop (mkF m 105 #[.val (.int p0), .val (.int p1), .val (.int p2), .val (.int p3), .val (.int p4), .val (.int p5), .val (.int (p0 &&& (2147483647 : Int32))), .val (.int (p1 &&& (2147483647 : Int32))), .val (.int rr_1), .val (.int rr_2), .val (.int ((p2 &&& (1073741823 : Int32)) + (1 : Int32))), .val (.int ((p3 &&& (1073741823 : Int32)) + (1 : Int32))), .val (.int rr_3), .val (.int rr_4), .val (.double (FP.dmul (4608083138725491507 : UInt64) (FP.dadd (4598175219545276416 : UInt64) (FP.ddiv (FP.dmul (4604930618986332160 : UInt64) (FP.i2d rr_1)) (FP.i2d rr_3))))), .second, .val (.double (FP.dmul (4608083138725491507 : UInt64) (FP.dadd (4598175219545276416 : UInt64) (FP.ddiv (FP.dmul (4604930618986332160 : UInt64) (FP.i2d rr_2)) (FP.i2d rr_3))))), .second, .val (.double (FP.dmul (4608083138725491507 : UInt64) (FP.dadd (4598175219545276416 : UInt64) (FP.ddiv (FP.dmul (4604930618986332160 : UInt64) (FP.i2d rr_1)) (FP.i2d rr_4))))), .second, .unset, .unset, .unset, .unset, .unset, .unset, .unset, .unset, .unset, .unset] [])) _
    refine XS.iconst X7.here hx rfl (hb hby at_105) ?_
    show Steps p.tables e below (T7.setTop (mkF m 106 #[.val (.int p0), .val (.int p1), .val (.int p2), .val (.int p3), .val (.int p4), .val (.int p5), .val (.int (p0 &&& (2147483647 : Int32))), .val (.int (p1 &&& (2147483647 : Int32))), .val (.int rr_1), .val (.int rr_2), .val (.int ((p2 &&& (1073741823 : Int32)) + (1 : Int32))), .val (.int ((p3 &&& (1073741823 : Int32)) + (1 : Int32))), .val (.int rr_3), .val (.int rr_4), .val (.double (FP.dmul (4608083138725491507 : UInt64) (FP.dadd (4598175219545276416 : UInt64) (FP.ddiv (FP.dmul (4604930618986332160 : UInt64) (FP.i2d rr_1)) (FP.i2d rr_3))))), .second, .val (.double (FP.dmul (4608083138725491507 : UInt64) (FP.dadd (4598175219545276416 : UInt64) (FP.ddiv (FP.dmul (4604930618986332160 : UInt64) (FP.i2d rr_2)) (FP.i2d rr_3))))), .second, .val (.double (FP.dmul (4608083138725491507 : UInt64) (FP.dadd (4598175219545276416 : UInt64) (FP.ddiv (FP.dmul (4604930618986332160 : UInt64) (FP.i2d rr_1)) (FP.i2d rr_4))))), .second, .unset, .unset, .unset, .unset, .unset, .unset, .unset, .unset, .unset, .unset] [(.int (1 : Int32))])) _
    refine XS.goto X7.here hx rfl (pc0 := 106) (pc' := 110) rfl (hb hby at_106) (by decide) (by decide) ?_
    show Steps p.tables e below (T7.setTop (mkF m 110 #[.val (.int p0), .val (.int p1), .val (.int p2), .val (.int p3), .val (.int p4), .val (.int p5), .val (.int (p0 &&& (2147483647 : Int32))), .val (.int (p1 &&& (2147483647 : Int32))), .val (.int rr_1), .val (.int rr_2), .val (.int ((p2 &&& (1073741823 : Int32)) + (1 : Int32))), .val (.int ((p3 &&& (1073741823 : Int32)) + (1 : Int32))), .val (.int rr_3), .val (.int rr_4), .val (.double (FP.dmul (4608083138725491507 : UInt64) (FP.dadd (4598175219545276416 : UInt64) (FP.ddiv (FP.dmul (4604930618986332160 : UInt64) (FP.i2d rr_1)) (FP.i2d rr_3))))), .second, .val (.double (FP.dmul (4608083138725491507 : UInt64) (FP.dadd (4598175219545276416 : UInt64) (FP.ddiv (FP.dmul (4604930618986332160 : UInt64) (FP.i2d rr_2)) (FP.i2d rr_3))))), .second, .val (.double (FP.dmul (4608083138725491507 : UInt64) (FP.dadd (4598175219545276416 : UInt64) (FP.ddiv (FP.dmul (4604930618986332160 : UInt64) (FP.i2d rr_1)) (FP.i2d rr_4))))), .second, .unset, .unset, .unset, .unset, .unset, .unset, .unset, .unset, .unset, .unset] [(.int (1 : Int32))])) _
    refine XS.istore X7.here hx rfl (hb hby at_110) rfl (l' := #[.val (.int p0), .val (.int p1), .val (.int p2), .val (.int p3), .val (.int p4), .val (.int p5), .val (.int (p0 &&& (2147483647 : Int32))), .val (.int (p1 &&& (2147483647 : Int32))), .val (.int rr_1), .val (.int rr_2), .val (.int ((p2 &&& (1073741823 : Int32)) + (1 : Int32))), .val (.int ((p3 &&& (1073741823 : Int32)) + (1 : Int32))), .val (.int rr_3), .val (.int rr_4), .val (.double (FP.dmul (4608083138725491507 : UInt64) (FP.dadd (4598175219545276416 : UInt64) (FP.ddiv (FP.dmul (4604930618986332160 : UInt64) (FP.i2d rr_1)) (FP.i2d rr_3))))), .second, .val (.double (FP.dmul (4608083138725491507 : UInt64) (FP.dadd (4598175219545276416 : UInt64) (FP.ddiv (FP.dmul (4604930618986332160 : UInt64) (FP.i2d rr_2)) (FP.i2d rr_3))))), .second, .val (.double (FP.dmul (4608083138725491507 : UInt64) (FP.dadd (4598175219545276416 : UInt64) (FP.ddiv (FP.dmul (4604930618986332160 : UInt64) (FP.i2d rr_1)) (FP.i2d rr_4))))), .second, .val (.int (1 : Int32)), .unset, .unset, .unset, .unset, .unset, .unset, .unset, .unset, .unset]) rfl ?_
    show Steps p.tables e below (T7.setTop (mkF m 112 #[.val (.int p0), .val (.int p1), .val (.int p2), .val (.int p3), .val (.int p4), .val (.int p5), .val (.int (p0 &&& (2147483647 : Int32))), .val (.int (p1 &&& (2147483647 : Int32))), .val (.int rr_1), .val (.int rr_2), .val (.int ((p2 &&& (1073741823 : Int32)) + (1 : Int32))), .val (.int ((p3 &&& (1073741823 : Int32)) + (1 : Int32))), .val (.int rr_3), .val (.int rr_4), .val (.double (FP.dmul (4608083138725491507 : UInt64) (FP.dadd (4598175219545276416 : UInt64) (FP.ddiv (FP.dmul (4604930618986332160 : UInt64) (FP.i2d rr_1)) (FP.i2d rr_3))))), .second, .val (.double (FP.dmul (4608083138725491507 : UInt64) (FP.dadd (4598175219545276416 : UInt64) (FP.ddiv (FP.dmul (4604930618986332160 : UInt64) (FP.i2d rr_2)) (FP.i2d rr_3))))), .second, .val (.double (FP.dmul (4608083138725491507 : UInt64) (FP.dadd (4598175219545276416 : UInt64) (FP.ddiv (FP.dmul (4604930618986332160 : UInt64) (FP.i2d rr_1)) (FP.i2d rr_4))))), .second, .val (.int (1 : Int32)), .unset, .unset, .unset, .unset, .unset, .unset, .unset, .unset, .unset] [])) _
    refine XS.dload X7.here hx rfl (hb hby at_112) rfl ?_
    show Steps p.tables e below (T7.setTop (mkF m 114 #[.val (.int p0), .val (.int p1), .val (.int p2), .val (.int p3), .val (.int p4), .val (.int p5), .val (.int (p0 &&& (2147483647 : Int32))), .val (.int (p1 &&& (2147483647 : Int32))), .val (.int rr_1), .val (.int rr_2), .val (.int ((p2 &&& (1073741823 : Int32)) + (1 : Int32))), .val (.int ((p3 &&& (1073741823 : Int32)) + (1 : Int32))), .val (.int rr_3), .val (.int rr_4), .val (.double (FP.dmul (4608083138725491507 : UInt64) (FP.dadd (4598175219545276416 : UInt64) (FP.ddiv (FP.dmul (4604930618986332160 : UInt64) (FP.i2d rr_1)) (FP.i2d rr_3))))), .second, .val (.double (FP.dmul (4608083138725491507 : UInt64) (FP.dadd (4598175219545276416 : UInt64) (FP.ddiv (FP.dmul (4604930618986332160 : UInt64) (FP.i2d rr_2)) (FP.i2d rr_3))))), .second, .val (.double (FP.dmul (4608083138725491507 : UInt64) (FP.dadd (4598175219545276416 : UInt64) (FP.ddiv (FP.dmul (4604930618986332160 : UInt64) (FP.i2d rr_1)) (FP.i2d rr_4))))), .second, .val (.int (1 : Int32)), .unset, .unset, .unset, .unset, .unset, .unset, .unset, .unset, .unset] [(.double (FP.dmul (4608083138725491507 : UInt64) (FP.dadd (4598175219545276416 : UInt64) (FP.ddiv (FP.dmul (4604930618986332160 : UInt64) (FP.i2d rr_1)) (FP.i2d rr_4)))))])) _
    refine XS.dload X7.here hx rfl (hb hby at_114) rfl ?_
    show Steps p.tables e below (T7.setTop (mkF m 116 #[.val (.int p0), .val (.int p1), .val (.int p2), .val (.int p3), .val (.int p4), .val (.int p5), .val (.int (p0 &&& (2147483647 : Int32))), .val (.int (p1 &&& (2147483647 : Int32))), .val (.int rr_1), .val (.int rr_2), .val (.int ((p2 &&& (1073741823 : Int32)) + (1 : Int32))), .val (.int ((p3 &&& (1073741823 : Int32)) + (1 : Int32))), .val (.int rr_3), .val (.int rr_4), .val (.double (FP.dmul (4608083138725491507 : UInt64) (FP.dadd (4598175219545276416 : UInt64) (FP.ddiv (FP.dmul (4604930618986332160 : UInt64) (FP.i2d rr_1)) (FP.i2d rr_3))))), .second, .val (.double (FP.dmul (4608083138725491507 : UInt64) (FP.dadd (4598175219545276416 : UInt64) (FP.ddiv (FP.dmul (4604930618986332160 : UInt64) (FP.i2d rr_2)) (FP.i2d rr_3))))), .second, .val (.double (FP.dmul (4608083138725491507 : UInt64) (FP.dadd (4598175219545276416 : UInt64) (FP.ddiv (FP.dmul (4604930618986332160 : UInt64) (FP.i2d rr_1)) (FP.i2d rr_4))))), .second, .val (.int (1 : Int32)), .unset, .unset, .unset, .unset, .unset, .unset, .unset, .unset, .unset] [(.double (FP.dmul (4608083138725491507 : UInt64) (FP.dadd (4598175219545276416 : UInt64) (FP.ddiv (FP.dmul (4604930618986332160 : UInt64) (FP.i2d rr_1)) (FP.i2d rr_3))))), (.double (FP.dmul (4608083138725491507 : UInt64) (FP.dadd (4598175219545276416 : UInt64) (FP.ddiv (FP.dmul (4604930618986332160 : UInt64) (FP.i2d rr_1)) (FP.i2d rr_4)))))])) _
    refine XS.dcmpS X7.here hx rfl (hb hby at_116) rfl (v := (cmpValue (FP.dcmp (FP.dmul (4608083138725491507 : UInt64) (FP.dadd (4598175219545276416 : UInt64) (FP.ddiv (FP.dmul (4604930618986332160 : UInt64) (FP.i2d rr_1)) (FP.i2d rr_4)))) (FP.dmul (4608083138725491507 : UInt64) (FP.dadd (4598175219545276416 : UInt64) (FP.ddiv (FP.dmul (4604930618986332160 : UInt64) (FP.i2d rr_1)) (FP.i2d rr_3))))) .g)) rfl ?_
    show Steps p.tables e below (T7.setTop (mkF m 117 #[.val (.int p0), .val (.int p1), .val (.int p2), .val (.int p3), .val (.int p4), .val (.int p5), .val (.int (p0 &&& (2147483647 : Int32))), .val (.int (p1 &&& (2147483647 : Int32))), .val (.int rr_1), .val (.int rr_2), .val (.int ((p2 &&& (1073741823 : Int32)) + (1 : Int32))), .val (.int ((p3 &&& (1073741823 : Int32)) + (1 : Int32))), .val (.int rr_3), .val (.int rr_4), .val (.double (FP.dmul (4608083138725491507 : UInt64) (FP.dadd (4598175219545276416 : UInt64) (FP.ddiv (FP.dmul (4604930618986332160 : UInt64) (FP.i2d rr_1)) (FP.i2d rr_3))))), .second, .val (.double (FP.dmul (4608083138725491507 : UInt64) (FP.dadd (4598175219545276416 : UInt64) (FP.ddiv (FP.dmul (4604930618986332160 : UInt64) (FP.i2d rr_2)) (FP.i2d rr_3))))), .second, .val (.double (FP.dmul (4608083138725491507 : UInt64) (FP.dadd (4598175219545276416 : UInt64) (FP.ddiv (FP.dmul (4604930618986332160 : UInt64) (FP.i2d rr_1)) (FP.i2d rr_4))))), .second, .val (.int (1 : Int32)), .unset, .unset, .unset, .unset, .unset, .unset, .unset, .unset, .unset] [(.int (cmpValue (FP.dcmp (FP.dmul (4608083138725491507 : UInt64) (FP.dadd (4598175219545276416 : UInt64) (FP.ddiv (FP.dmul (4604930618986332160 : UInt64) (FP.i2d rr_1)) (FP.i2d rr_4)))) (FP.dmul (4608083138725491507 : UInt64) (FP.dadd (4598175219545276416 : UInt64) (FP.ddiv (FP.dmul (4604930618986332160 : UInt64) (FP.i2d rr_1)) (FP.i2d rr_3))))) .g))])) _
    refine XS.ifNo X7.here hx rfl (hb hby at_117) rfl ((if0 _ _).trans (flt (own_cle (own_fF _ _ hL.1 hA.2.2).1.ne (own_fF _ _ hL.1 hA.1).1.ne (own_mono hL.1 (Int.le_refl _) hA.1 hA.2.1) .g)).2.2.1) ?_
    show Steps p.tables e below (T7.setTop (mkF m 120 #[.val (.int p0), .val (.int p1), .val (.int p2), .val (.int p3), .val (.int p4), .val (.int p5), .val (.int (p0 &&& (2147483647 : Int32))), .val (.int (p1 &&& (2147483647 : Int32))), .val (.int rr_1), .val (.int rr_2), .val (.int ((p2 &&& (1073741823 : Int32)) + (1 : Int32))), .val (.int ((p3 &&& (1073741823 : Int32)) + (1 : Int32))), .val (.int rr_3), .val (.int rr_4), .val (.double (FP.dmul (4608083138725491507 : UInt64) (FP.dadd (4598175219545276416 : UInt64) (FP.ddiv (FP.dmul (4604930618986332160 : UInt64) (FP.i2d rr_1)) (FP.i2d rr_3))))), .second, .val (.double (FP.dmul (4608083138725491507 : UInt64) (FP.dadd (4598175219545276416 : UInt64) (FP.ddiv (FP.dmul (4604930618986332160 : UInt64) (FP.i2d rr_2)) (FP.i2d rr_3))))), .second, .val (.double (FP.dmul (4608083138725491507 : UInt64) (FP.dadd (4598175219545276416 : UInt64) (FP.ddiv (FP.dmul (4604930618986332160 : UInt64) (FP.i2d rr_1)) (FP.i2d rr_4))))), .second, .val (.int (1 : Int32)), .unset, .unset, .unset, .unset, .unset, .unset, .unset, .unset, .unset] [])) _
    refine XS.iconst X7.here hx rfl (hb hby at_120) ?_
    show Steps p.tables e below (T7.setTop (mkF m 121 #[.val (.int p0), .val (.int p1), .val (.int p2), .val (.int p3), .val (.int p4), .val (.int p5), .val (.int (p0 &&& (2147483647 : Int32))), .val (.int (p1 &&& (2147483647 : Int32))), .val (.int rr_1), .val (.int rr_2), .val (.int ((p2 &&& (1073741823 : Int32)) + (1 : Int32))), .val (.int ((p3 &&& (1073741823 : Int32)) + (1 : Int32))), .val (.int rr_3), .val (.int rr_4), .val (.double (FP.dmul (4608083138725491507 : UInt64) (FP.dadd (4598175219545276416 : UInt64) (FP.ddiv (FP.dmul (4604930618986332160 : UInt64) (FP.i2d rr_1)) (FP.i2d rr_3))))), .second, .val (.double (FP.dmul (4608083138725491507 : UInt64) (FP.dadd (4598175219545276416 : UInt64) (FP.ddiv (FP.dmul (4604930618986332160 : UInt64) (FP.i2d rr_2)) (FP.i2d rr_3))))), .second, .val (.double (FP.dmul (4608083138725491507 : UInt64) (FP.dadd (4598175219545276416 : UInt64) (FP.ddiv (FP.dmul (4604930618986332160 : UInt64) (FP.i2d rr_1)) (FP.i2d rr_4))))), .second, .val (.int (1 : Int32)), .unset, .unset, .unset, .unset, .unset, .unset, .unset, .unset, .unset] [(.int (1 : Int32))])) _
    refine XS.goto X7.here hx rfl (pc0 := 121) (pc' := 125) rfl (hb hby at_121) (by decide) (by decide) ?_
    show Steps p.tables e below (T7.setTop (mkF m 125 #[.val (.int p0), .val (.int p1), .val (.int p2), .val (.int p3), .val (.int p4), .val (.int p5), .val (.int (p0 &&& (2147483647 : Int32))), .val (.int (p1 &&& (2147483647 : Int32))), .val (.int rr_1), .val (.int rr_2), .val (.int ((p2 &&& (1073741823 : Int32)) + (1 : Int32))), .val (.int ((p3 &&& (1073741823 : Int32)) + (1 : Int32))), .val (.int rr_3), .val (.int rr_4), .val (.double (FP.dmul (4608083138725491507 : UInt64) (FP.dadd (4598175219545276416 : UInt64) (FP.ddiv (FP.dmul (4604930618986332160 : UInt64) (FP.i2d rr_1)) (FP.i2d rr_3))))), .second, .val (.double (FP.dmul (4608083138725491507 : UInt64) (FP.dadd (4598175219545276416 : UInt64) (FP.ddiv (FP.dmul (4604930618986332160 : UInt64) (FP.i2d rr_2)) (FP.i2d rr_3))))), .second, .val (.double (FP.dmul (4608083138725491507 : UInt64) (FP.dadd (4598175219545276416 : UInt64) (FP.ddiv (FP.dmul (4604930618986332160 : UInt64) (FP.i2d rr_1)) (FP.i2d rr_4))))), .second, .val (.int (1 : Int32)), .unset, .unset, .unset, .unset, .unset, .unset, .unset, .unset, .unset] [(.int (1 : Int32))])) _
    refine XS.istore X7.here hx rfl (hb hby at_125) rfl (l' := #[.val (.int p0), .val (.int p1), .val (.int p2), .val (.int p3), .val (.int p4), .val (.int p5), .val (.int (p0 &&& (2147483647 : Int32))), .val (.int (p1 &&& (2147483647 : Int32))), .val (.int rr_1), .val (.int rr_2), .val (.int ((p2 &&& (1073741823 : Int32)) + (1 : Int32))), .val (.int ((p3 &&& (1073741823 : Int32)) + (1 : Int32))), .val (.int rr_3), .val (.int rr_4), .val (.double (FP.dmul (4608083138725491507 : UInt64) (FP.dadd (4598175219545276416 : UInt64) (FP.ddiv (FP.dmul (4604930618986332160 : UInt64) (FP.i2d rr_1)) (FP.i2d rr_3))))), .second, .val (.double (FP.dmul (4608083138725491507 : UInt64) (FP.dadd (4598175219545276416 : UInt64) (FP.ddiv (FP.dmul (4604930618986332160 : UInt64) (FP.i2d rr_2)) (FP.i2d rr_3))))), .second, .val (.double (FP.dmul (4608083138725491507 : UInt64) (FP.dadd (4598175219545276416 : UInt64) (FP.ddiv (FP.dmul (4604930618986332160 : UInt64) (FP.i2d rr_1)) (FP.i2d rr_4))))), .second, .val (.int (1 : Int32)), .val (.int (1 : Int32)), .unset, .unset, .unset, .unset, .unset, .unset, .unset, .unset]) rfl ?_
    show Steps p.tables e below (T7.setTop (mkF m 127 #[.val (.int p0), .val (.int p1), .val (.int p2), .val (.int p3), .val (.int p4), .val (.int p5), .val (.int (p0 &&& (2147483647 : Int32))), .val (.int (p1 &&& (2147483647 : Int32))), .val (.int rr_1), .val (.int rr_2), .val (.int ((p2 &&& (1073741823 : Int32)) + (1 : Int32))), .val (.int ((p3 &&& (1073741823 : Int32)) + (1 : Int32))), .val (.int rr_3), .val (.int rr_4), .val (.double (FP.dmul (4608083138725491507 : UInt64) (FP.dadd (4598175219545276416 : UInt64) (FP.ddiv (FP.dmul (4604930618986332160 : UInt64) (FP.i2d rr_1)) (FP.i2d rr_3))))), .second, .val (.double (FP.dmul (4608083138725491507 : UInt64) (FP.dadd (4598175219545276416 : UInt64) (FP.ddiv (FP.dmul (4604930618986332160 : UInt64) (FP.i2d rr_2)) (FP.i2d rr_3))))), .second, .val (.double (FP.dmul (4608083138725491507 : UInt64) (FP.dadd (4598175219545276416 : UInt64) (FP.ddiv (FP.dmul (4604930618986332160 : UInt64) (FP.i2d rr_1)) (FP.i2d rr_4))))), .second, .val (.int (1 : Int32)), .val (.int (1 : Int32)), .unset, .unset, .unset, .unset, .unset, .unset, .unset, .unset] [])) _
    refine X7.ldc2DoubleC hx hown (mvT hZ (own_k hw 16 rfl)) (g := (mkF m 127 #[.val (.int p0), .val (.int p1), .val (.int p2), .val (.int p3), .val (.int p4), .val (.int p5), .val (.int (p0 &&& (2147483647 : Int32))), .val (.int (p1 &&& (2147483647 : Int32))), .val (.int rr_1), .val (.int rr_2), .val (.int ((p2 &&& (1073741823 : Int32)) + (1 : Int32))), .val (.int ((p3 &&& (1073741823 : Int32)) + (1 : Int32))), .val (.int rr_3), .val (.int rr_4), .val (.double (FP.dmul (4608083138725491507 : UInt64) (FP.dadd (4598175219545276416 : UInt64) (FP.ddiv (FP.dmul (4604930618986332160 : UInt64) (FP.i2d rr_1)) (FP.i2d rr_3))))), .second, .val (.double (FP.dmul (4608083138725491507 : UInt64) (FP.dadd (4598175219545276416 : UInt64) (FP.ddiv (FP.dmul (4604930618986332160 : UInt64) (FP.i2d rr_2)) (FP.i2d rr_3))))), .second, .val (.double (FP.dmul (4608083138725491507 : UInt64) (FP.dadd (4598175219545276416 : UInt64) (FP.ddiv (FP.dmul (4604930618986332160 : UInt64) (FP.i2d rr_1)) (FP.i2d rr_4))))), .second, .val (.int (1 : Int32)), .val (.int (1 : Int32)), .unset, .unset, .unset, .unset, .unset, .unset, .unset, .unset] [])) rfl (hb hby at_127) _ ?_
    show Steps p.tables e below (T7.setTop (mkF m 130 #[.val (.int p0), .val (.int p1), .val (.int p2), .val (.int p3), .val (.int p4), .val (.int p5), .val (.int (p0 &&& (2147483647 : Int32))), .val (.int (p1 &&& (2147483647 : Int32))), .val (.int rr_1), .val (.int rr_2), .val (.int ((p2 &&& (1073741823 : Int32)) + (1 : Int32))), .val (.int ((p3 &&& (1073741823 : Int32)) + (1 : Int32))), .val (.int rr_3), .val (.int rr_4), .val (.double (FP.dmul (4608083138725491507 : UInt64) (FP.dadd (4598175219545276416 : UInt64) (FP.ddiv (FP.dmul (4604930618986332160 : UInt64) (FP.i2d rr_1)) (FP.i2d rr_3))))), .second, .val (.double (FP.dmul (4608083138725491507 : UInt64) (FP.dadd (4598175219545276416 : UInt64) (FP.ddiv (FP.dmul (4604930618986332160 : UInt64) (FP.i2d rr_2)) (FP.i2d rr_3))))), .second, .val (.double (FP.dmul (4608083138725491507 : UInt64) (FP.dadd (4598175219545276416 : UInt64) (FP.ddiv (FP.dmul (4604930618986332160 : UInt64) (FP.i2d rr_1)) (FP.i2d rr_4))))), .second, .val (.int (1 : Int32)), .val (.int (1 : Int32)), .unset, .unset, .unset, .unset, .unset, .unset, .unset, .unset] [(.double (4599075939470750515 : UInt64))])) _
    refine XS.dload X7.here hx rfl (hb hby at_130) rfl ?_
    show Steps p.tables e below (T7.setTop (mkF m 132 #[.val (.int p0), .val (.int p1), .val (.int p2), .val (.int p3), .val (.int p4), .val (.int p5), .val (.int (p0 &&& (2147483647 : Int32))), .val (.int (p1 &&& (2147483647 : Int32))), .val (.int rr_1), .val (.int rr_2), .val (.int ((p2 &&& (1073741823 : Int32)) + (1 : Int32))), .val (.int ((p3 &&& (1073741823 : Int32)) + (1 : Int32))), .val (.int rr_3), .val (.int rr_4), .val (.double (FP.dmul (4608083138725491507 : UInt64) (FP.dadd (4598175219545276416 : UInt64) (FP.ddiv (FP.dmul (4604930618986332160 : UInt64) (FP.i2d rr_1)) (FP.i2d rr_3))))), .second, .val (.double (FP.dmul (4608083138725491507 : UInt64) (FP.dadd (4598175219545276416 : UInt64) (FP.ddiv (FP.dmul (4604930618986332160 : UInt64) (FP.i2d rr_2)) (FP.i2d rr_3))))), .second, .val (.double (FP.dmul (4608083138725491507 : UInt64) (FP.dadd (4598175219545276416 : UInt64) (FP.ddiv (FP.dmul (4604930618986332160 : UInt64) (FP.i2d rr_1)) (FP.i2d rr_4))))), .second, .val (.int (1 : Int32)), .val (.int (1 : Int32)), .unset, .unset, .unset, .unset, .unset, .unset, .unset, .unset] [(.double (FP.dmul (4608083138725491507 : UInt64) (FP.dadd (4598175219545276416 : UInt64) (FP.ddiv (FP.dmul (4604930618986332160 : UInt64) (FP.i2d rr_1)) (FP.i2d rr_4))))), (.double (4599075939470750515 : UInt64))])) _
    refine XS.dcmpS X7.here hx rfl (hb hby at_132) rfl (v := (cmpValue (FP.dcmp (4599075939470750515 : UInt64) (FP.dmul (4608083138725491507 : UInt64) (FP.dadd (4598175219545276416 : UInt64) (FP.ddiv (FP.dmul (4604930618986332160 : UInt64) (FP.i2d rr_1)) (FP.i2d rr_4))))) .g)) rfl ?_
    show Steps p.tables e below (T7.setTop (mkF m 133 #[.val (.int p0), .val (.int p1), .val (.int p2), .val (.int p3), .val (.int p4), .val (.int p5), .val (.int (p0 &&& (2147483647 : Int32))), .val (.int (p1 &&& (2147483647 : Int32))), .val (.int rr_1), .val (.int rr_2), .val (.int ((p2 &&& (1073741823 : Int32)) + (1 : Int32))), .val (.int ((p3 &&& (1073741823 : Int32)) + (1 : Int32))), .val (.int rr_3), .val (.int rr_4), .val (.double (FP.dmul (4608083138725491507 : UInt64) (FP.dadd (4598175219545276416 : UInt64) (FP.ddiv (FP.dmul (4604930618986332160 : UInt64) (FP.i2d rr_1)) (FP.i2d rr_3))))), .second, .val (.double (FP.dmul (4608083138725491507 : UInt64) (FP.dadd (4598175219545276416 : UInt64) (FP.ddiv (FP.dmul (4604930618986332160 : UInt64) (FP.i2d rr_2)) (FP.i2d rr_3))))), .second, .val (.double (FP.dmul (4608083138725491507 : UInt64) (FP.dadd (4598175219545276416 : UInt64) (FP.ddiv (FP.dmul (4604930618986332160 : UInt64) (FP.i2d rr_1)) (FP.i2d rr_4))))), .second, .val (.int (1 : Int32)), .val (.int (1 : Int32)), .unset, .unset, .unset, .unset, .unset, .unset, .unset, .unset] [(.int (cmpValue (FP.dcmp (4599075939470750515 : UInt64) (FP.dmul (4608083138725491507 : UInt64) (FP.dadd (4598175219545276416 : UInt64) (FP.ddiv (FP.dmul (4604930618986332160 : UInt64) (FP.i2d rr_1)) (FP.i2d rr_4))))) .g))])) _
    refine XS.ifNo X7.here hx rfl (hb hby at_133) rfl ((if0 _ _).trans (flt (own_cle own_LF.ne (own_fF _ _ hL.1 hA.2.2).1.ne (own_low hL.1 hA.2.2) .g)).2.2.1) ?_
    show Steps p.tables e below (T7.setTop (mkF m 136 #[.val (.int p0), .val (.int p1), .val (.int p2), .val (.int p3), .val (.int p4), .val (.int p5), .val (.int (p0 &&& (2147483647 : Int32))), .val (.int (p1 &&& (2147483647 : Int32))), .val (.int rr_1), .val (.int rr_2), .val (.int ((p2 &&& (1073741823 : Int32)) + (1 : Int32))), .val (.int ((p3 &&& (1073741823 : Int32)) + (1 : Int32))), .val (.int rr_3), .val (.int rr_4), .val (.double (FP.dmul (4608083138725491507 : UInt64) (FP.dadd (4598175219545276416 : UInt64) (FP.ddiv (FP.dmul (4604930618986332160 : UInt64) (FP.i2d rr_1)) (FP.i2d rr_3))))), .second, .val (.double (FP.dmul (4608083138725491507 : UInt64) (FP.dadd (4598175219545276416 : UInt64) (FP.ddiv (FP.dmul (4604930618986332160 : UInt64) (FP.i2d rr_2)) (FP.i2d rr_3))))), .second, .val (.double (FP.dmul (4608083138725491507 : UInt64) (FP.dadd (4598175219545276416 : UInt64) (FP.ddiv (FP.dmul (4604930618986332160 : UInt64) (FP.i2d rr_1)) (FP.i2d rr_4))))), .second, .val (.int (1 : Int32)), .val (.int (1 : Int32)), .unset, .unset, .unset, .unset, .unset, .unset, .unset, .unset] [])) _
    refine XS.iconst X7.here hx rfl (hb hby at_136) ?_
    show Steps p.tables e below (T7.setTop (mkF m 137 #[.val (.int p0), .val (.int p1), .val (.int p2), .val (.int p3), .val (.int p4), .val (.int p5), .val (.int (p0 &&& (2147483647 : Int32))), .val (.int (p1 &&& (2147483647 : Int32))), .val (.int rr_1), .val (.int rr_2), .val (.int ((p2 &&& (1073741823 : Int32)) + (1 : Int32))), .val (.int ((p3 &&& (1073741823 : Int32)) + (1 : Int32))), .val (.int rr_3), .val (.int rr_4), .val (.double (FP.dmul (4608083138725491507 : UInt64) (FP.dadd (4598175219545276416 : UInt64) (FP.ddiv (FP.dmul (4604930618986332160 : UInt64) (FP.i2d rr_1)) (FP.i2d rr_3))))), .second, .val (.double (FP.dmul (4608083138725491507 : UInt64) (FP.dadd (4598175219545276416 : UInt64) (FP.ddiv (FP.dmul (4604930618986332160 : UInt64) (FP.i2d rr_2)) (FP.i2d rr_3))))), .second, .val (.double (FP.dmul (4608083138725491507 : UInt64) (FP.dadd (4598175219545276416 : UInt64) (FP.ddiv (FP.dmul (4604930618986332160 : UInt64) (FP.i2d rr_1)) (FP.i2d rr_4))))), .second, .val (.int (1 : Int32)), .val (.int (1 : Int32)), .unset, .unset, .unset, .unset, .unset, .unset, .unset, .unset] [(.int (1 : Int32))])) _
    refine XS.goto X7.here hx rfl (pc0 := 137) (pc' := 141) rfl (hb hby at_137) (by decide) (by decide) ?_
    show Steps p.tables e below (T7.setTop (mkF m 141 #[.val (.int p0), .val (.int p1), .val (.int p2), .val (.int p3), .val (.int p4), .val (.int p5), .val (.int (p0 &&& (2147483647 : Int32))), .val (.int (p1 &&& (2147483647 : Int32))), .val (.int rr_1), .val (.int rr_2), .val (.int ((p2 &&& (1073741823 : Int32)) + (1 : Int32))), .val (.int ((p3 &&& (1073741823 : Int32)) + (1 : Int32))), .val (.int rr_3), .val (.int rr_4), .val (.double (FP.dmul (4608083138725491507 : UInt64) (FP.dadd (4598175219545276416 : UInt64) (FP.ddiv (FP.dmul (4604930618986332160 : UInt64) (FP.i2d rr_1)) (FP.i2d rr_3))))), .second, .val (.double (FP.dmul (4608083138725491507 : UInt64) (FP.dadd (4598175219545276416 : UInt64) (FP.ddiv (FP.dmul (4604930618986332160 : UInt64) (FP.i2d rr_2)) (FP.i2d rr_3))))), .second, .val (.double (FP.dmul (4608083138725491507 : UInt64) (FP.dadd (4598175219545276416 : UInt64) (FP.ddiv (FP.dmul (4604930618986332160 : UInt64) (FP.i2d rr_1)) (FP.i2d rr_4))))), .second, .val (.int (1 : Int32)), .val (.int (1 : Int32)), .unset, .unset, .unset, .unset, .unset, .unset, .unset, .unset] [(.int (1 : Int32))])) _
    refine XS.istore X7.here hx rfl (hb hby at_141) rfl (l' := #[.val (.int p0), .val (.int p1), .val (.int p2), .val (.int p3), .val (.int p4), .val (.int p5), .val (.int (p0 &&& (2147483647 : Int32))), .val (.int (p1 &&& (2147483647 : Int32))), .val (.int rr_1), .val (.int rr_2), .val (.int ((p2 &&& (1073741823 : Int32)) + (1 : Int32))), .val (.int ((p3 &&& (1073741823 : Int32)) + (1 : Int32))), .val (.int rr_3), .val (.int rr_4), .val (.double (FP.dmul (4608083138725491507 : UInt64) (FP.dadd (4598175219545276416 : UInt64) (FP.ddiv (FP.dmul (4604930618986332160 : UInt64) (FP.i2d rr_1)) (FP.i2d rr_3))))), .second, .val (.double (FP.dmul (4608083138725491507 : UInt64) (FP.dadd (4598175219545276416 : UInt64) (FP.ddiv (FP.dmul (4604930618986332160 : UInt64) (FP.i2d rr_2)) (FP.i2d rr_3))))), .second, .val (.double (FP.dmul (4608083138725491507 : UInt64) (FP.dadd (4598175219545276416 : UInt64) (FP.ddiv (FP.dmul (4604930618986332160 : UInt64) (FP.i2d rr_1)) (FP.i2d rr_4))))), .second, .val (.int (1 : Int32)), .val (.int (1 : Int32)), .val (.int (1 : Int32)), .unset, .unset, .unset, .unset, .unset, .unset, .unset]) rfl ?_
    show Steps p.tables e below (T7.setTop (mkF m 143 #[.val (.int p0), .val (.int p1), .val (.int p2), .val (.int p3), .val (.int p4), .val (.int p5), .val (.int (p0 &&& (2147483647 : Int32))), .val (.int (p1 &&& (2147483647 : Int32))), .val (.int rr_1), .val (.int rr_2), .val (.int ((p2 &&& (1073741823 : Int32)) + (1 : Int32))), .val (.int ((p3 &&& (1073741823 : Int32)) + (1 : Int32))), .val (.int rr_3), .val (.int rr_4), .val (.double (FP.dmul (4608083138725491507 : UInt64) (FP.dadd (4598175219545276416 : UInt64) (FP.ddiv (FP.dmul (4604930618986332160 : UInt64) (FP.i2d rr_1)) (FP.i2d rr_3))))), .second, .val (.double (FP.dmul (4608083138725491507 : UInt64) (FP.dadd (4598175219545276416 : UInt64) (FP.ddiv (FP.dmul (4604930618986332160 : UInt64) (FP.i2d rr_2)) (FP.i2d rr_3))))), .second, .val (.double (FP.dmul (4608083138725491507 : UInt64) (FP.dadd (4598175219545276416 : UInt64) (FP.ddiv (FP.dmul (4604930618986332160 : UInt64) (FP.i2d rr_1)) (FP.i2d rr_4))))), .second, .val (.int (1 : Int32)), .val (.int (1 : Int32)), .val (.int (1 : Int32)), .unset, .unset, .unset, .unset, .unset, .unset, .unset] [])) _
    refine XS.iload X7.here hx rfl (hb hby at_143) rfl ?_
    show Steps p.tables e below (T7.setTop (mkF m 145 #[.val (.int p0), .val (.int p1), .val (.int p2), .val (.int p3), .val (.int p4), .val (.int p5), .val (.int (p0 &&& (2147483647 : Int32))), .val (.int (p1 &&& (2147483647 : Int32))), .val (.int rr_1), .val (.int rr_2), .val (.int ((p2 &&& (1073741823 : Int32)) + (1 : Int32))), .val (.int ((p3 &&& (1073741823 : Int32)) + (1 : Int32))), .val (.int rr_3), .val (.int rr_4), .val (.double (FP.dmul (4608083138725491507 : UInt64) (FP.dadd (4598175219545276416 : UInt64) (FP.ddiv (FP.dmul (4604930618986332160 : UInt64) (FP.i2d rr_1)) (FP.i2d rr_3))))), .second, .val (.double (FP.dmul (4608083138725491507 : UInt64) (FP.dadd (4598175219545276416 : UInt64) (FP.ddiv (FP.dmul (4604930618986332160 : UInt64) (FP.i2d rr_2)) (FP.i2d rr_3))))), .second, .val (.double (FP.dmul (4608083138725491507 : UInt64) (FP.dadd (4598175219545276416 : UInt64) (FP.ddiv (FP.dmul (4604930618986332160 : UInt64) (FP.i2d rr_1)) (FP.i2d rr_4))))), .second, .val (.int (1 : Int32)), .val (.int (1 : Int32)), .val (.int (1 : Int32)), .unset, .unset, .unset, .unset, .unset, .unset, .unset] [(.int p4)])) _
    refine XS.sipush X7.here hx rfl (hb hby at_145) ?_
    show Steps p.tables e below (T7.setTop (mkF m 148 #[.val (.int p0), .val (.int p1), .val (.int p2), .val (.int p3), .val (.int p4), .val (.int p5), .val (.int (p0 &&& (2147483647 : Int32))), .val (.int (p1 &&& (2147483647 : Int32))), .val (.int rr_1), .val (.int rr_2), .val (.int ((p2 &&& (1073741823 : Int32)) + (1 : Int32))), .val (.int ((p3 &&& (1073741823 : Int32)) + (1 : Int32))), .val (.int rr_3), .val (.int rr_4), .val (.double (FP.dmul (4608083138725491507 : UInt64) (FP.dadd (4598175219545276416 : UInt64) (FP.ddiv (FP.dmul (4604930618986332160 : UInt64) (FP.i2d rr_1)) (FP.i2d rr_3))))), .second, .val (.double (FP.dmul (4608083138725491507 : UInt64) (FP.dadd (4598175219545276416 : UInt64) (FP.ddiv (FP.dmul (4604930618986332160 : UInt64) (FP.i2d rr_2)) (FP.i2d rr_3))))), .second, .val (.double (FP.dmul (4608083138725491507 : UInt64) (FP.dadd (4598175219545276416 : UInt64) (FP.ddiv (FP.dmul (4604930618986332160 : UInt64) (FP.i2d rr_1)) (FP.i2d rr_4))))), .second, .val (.int (1 : Int32)), .val (.int (1 : Int32)), .val (.int (1 : Int32)), .unset, .unset, .unset, .unset, .unset, .unset, .unset] [(.int (1023 : Int32)), (.int p4)])) _
    refine XS.iand X7.here hx rfl (hb hby at_148) rfl ?_
    show Steps p.tables e below (T7.setTop (mkF m 149 #[.val (.int p0), .val (.int p1), .val (.int p2), .val (.int p3), .val (.int p4), .val (.int p5), .val (.int (p0 &&& (2147483647 : Int32))), .val (.int (p1 &&& (2147483647 : Int32))), .val (.int rr_1), .val (.int rr_2), .val (.int ((p2 &&& (1073741823 : Int32)) + (1 : Int32))), .val (.int ((p3 &&& (1073741823 : Int32)) + (1 : Int32))), .val (.int rr_3), .val (.int rr_4), .val (.double (FP.dmul (4608083138725491507 : UInt64) (FP.dadd (4598175219545276416 : UInt64) (FP.ddiv (FP.dmul (4604930618986332160 : UInt64) (FP.i2d rr_1)) (FP.i2d rr_3))))), .second, .val (.double (FP.dmul (4608083138725491507 : UInt64) (FP.dadd (4598175219545276416 : UInt64) (FP.ddiv (FP.dmul (4604930618986332160 : UInt64) (FP.i2d rr_2)) (FP.i2d rr_3))))), .second, .val (.double (FP.dmul (4608083138725491507 : UInt64) (FP.dadd (4598175219545276416 : UInt64) (FP.ddiv (FP.dmul (4604930618986332160 : UInt64) (FP.i2d rr_1)) (FP.i2d rr_4))))), .second, .val (.int (1 : Int32)), .val (.int (1 : Int32)), .val (.int (1 : Int32)), .unset, .unset, .unset, .unset, .unset, .unset, .unset] [(.int (p4 &&& (1023 : Int32)))])) _
    refine XS.istore X7.here hx rfl (hb hby at_149) rfl (l' := #[.val (.int p0), .val (.int p1), .val (.int p2), .val (.int p3), .val (.int p4), .val (.int p5), .val (.int (p0 &&& (2147483647 : Int32))), .val (.int (p1 &&& (2147483647 : Int32))), .val (.int rr_1), .val (.int rr_2), .val (.int ((p2 &&& (1073741823 : Int32)) + (1 : Int32))), .val (.int ((p3 &&& (1073741823 : Int32)) + (1 : Int32))), .val (.int rr_3), .val (.int rr_4), .val (.double (FP.dmul (4608083138725491507 : UInt64) (FP.dadd (4598175219545276416 : UInt64) (FP.ddiv (FP.dmul (4604930618986332160 : UInt64) (FP.i2d rr_1)) (FP.i2d rr_3))))), .second, .val (.double (FP.dmul (4608083138725491507 : UInt64) (FP.dadd (4598175219545276416 : UInt64) (FP.ddiv (FP.dmul (4604930618986332160 : UInt64) (FP.i2d rr_2)) (FP.i2d rr_3))))), .second, .val (.double (FP.dmul (4608083138725491507 : UInt64) (FP.dadd (4598175219545276416 : UInt64) (FP.ddiv (FP.dmul (4604930618986332160 : UInt64) (FP.i2d rr_1)) (FP.i2d rr_4))))), .second, .val (.int (1 : Int32)), .val (.int (1 : Int32)), .val (.int (1 : Int32)), .val (.int (p4 &&& (1023 : Int32))), .unset, .unset, .unset, .unset, .unset, .unset]) rfl ?_
    show Steps p.tables e below (T7.setTop (mkF m 151 #[.val (.int p0), .val (.int p1), .val (.int p2), .val (.int p3), .val (.int p4), .val (.int p5), .val (.int (p0 &&& (2147483647 : Int32))), .val (.int (p1 &&& (2147483647 : Int32))), .val (.int rr_1), .val (.int rr_2), .val (.int ((p2 &&& (1073741823 : Int32)) + (1 : Int32))), .val (.int ((p3 &&& (1073741823 : Int32)) + (1 : Int32))), .val (.int rr_3), .val (.int rr_4), .val (.double (FP.dmul (4608083138725491507 : UInt64) (FP.dadd (4598175219545276416 : UInt64) (FP.ddiv (FP.dmul (4604930618986332160 : UInt64) (FP.i2d rr_1)) (FP.i2d rr_3))))), .second, .val (.double (FP.dmul (4608083138725491507 : UInt64) (FP.dadd (4598175219545276416 : UInt64) (FP.ddiv (FP.dmul (4604930618986332160 : UInt64) (FP.i2d rr_2)) (FP.i2d rr_3))))), .second, .val (.double (FP.dmul (4608083138725491507 : UInt64) (FP.dadd (4598175219545276416 : UInt64) (FP.ddiv (FP.dmul (4604930618986332160 : UInt64) (FP.i2d rr_1)) (FP.i2d rr_4))))), .second, .val (.int (1 : Int32)), .val (.int (1 : Int32)), .val (.int (1 : Int32)), .val (.int (p4 &&& (1023 : Int32))), .unset, .unset, .unset, .unset, .unset, .unset] [])) _
    refine XS.iload X7.here hx rfl (hb hby at_151) rfl ?_
    show Steps p.tables e below (T7.setTop (mkF m 153 #[.val (.int p0), .val (.int p1), .val (.int p2), .val (.int p3), .val (.int p4), .val (.int p5), .val (.int (p0 &&& (2147483647 : Int32))), .val (.int (p1 &&& (2147483647 : Int32))), .val (.int rr_1), .val (.int rr_2), .val (.int ((p2 &&& (1073741823 : Int32)) + (1 : Int32))), .val (.int ((p3 &&& (1073741823 : Int32)) + (1 : Int32))), .val (.int rr_3), .val (.int rr_4), .val (.double (FP.dmul (4608083138725491507 : UInt64) (FP.dadd (4598175219545276416 : UInt64) (FP.ddiv (FP.dmul (4604930618986332160 : UInt64) (FP.i2d rr_1)) (FP.i2d rr_3))))), .second, .val (.double (FP.dmul (4608083138725491507 : UInt64) (FP.dadd (4598175219545276416 : UInt64) (FP.ddiv (FP.dmul (4604930618986332160 : UInt64) (FP.i2d rr_2)) (FP.i2d rr_3))))), .second, .val (.double (FP.dmul (4608083138725491507 : UInt64) (FP.dadd (4598175219545276416 : UInt64) (FP.ddiv (FP.dmul (4604930618986332160 : UInt64) (FP.i2d rr_1)) (FP.i2d rr_4))))), .second, .val (.int (1 : Int32)), .val (.int (1 : Int32)), .val (.int (1 : Int32)), .val (.int (p4 &&& (1023 : Int32))), .unset, .unset, .unset, .unset, .unset, .unset] [(.int p5)])) _
    refine X7.ldcInt hx hown (mvT hZ (own_k hw 17 rfl)) (g := (mkF m 153 #[.val (.int p0), .val (.int p1), .val (.int p2), .val (.int p3), .val (.int p4), .val (.int p5), .val (.int (p0 &&& (2147483647 : Int32))), .val (.int (p1 &&& (2147483647 : Int32))), .val (.int rr_1), .val (.int rr_2), .val (.int ((p2 &&& (1073741823 : Int32)) + (1 : Int32))), .val (.int ((p3 &&& (1073741823 : Int32)) + (1 : Int32))), .val (.int rr_3), .val (.int rr_4), .val (.double (FP.dmul (4608083138725491507 : UInt64) (FP.dadd (4598175219545276416 : UInt64) (FP.ddiv (FP.dmul (4604930618986332160 : UInt64) (FP.i2d rr_1)) (FP.i2d rr_3))))), .second, .val (.double (FP.dmul (4608083138725491507 : UInt64) (FP.dadd (4598175219545276416 : UInt64) (FP.ddiv (FP.dmul (4604930618986332160 : UInt64) (FP.i2d rr_2)) (FP.i2d rr_3))))), .second, .val (.double (FP.dmul (4608083138725491507 : UInt64) (FP.dadd (4598175219545276416 : UInt64) (FP.ddiv (FP.dmul (4604930618986332160 : UInt64) (FP.i2d rr_1)) (FP.i2d rr_4))))), .second, .val (.int (1 : Int32)), .val (.int (1 : Int32)), .val (.int (1 : Int32)), .val (.int (p4 &&& (1023 : Int32))), .unset, .unset, .unset, .unset, .unset, .unset] [(.int p5)])) rfl (hb hby at_153) _ ?_
    show Steps p.tables e below (T7.setTop (mkF m 155 #[.val (.int p0), .val (.int p1), .val (.int p2), .val (.int p3), .val (.int p4), .val (.int p5), .val (.int (p0 &&& (2147483647 : Int32))), .val (.int (p1 &&& (2147483647 : Int32))), .val (.int rr_1), .val (.int rr_2), .val (.int ((p2 &&& (1073741823 : Int32)) + (1 : Int32))), .val (.int ((p3 &&& (1073741823 : Int32)) + (1 : Int32))), .val (.int rr_3), .val (.int rr_4), .val (.double (FP.dmul (4608083138725491507 : UInt64) (FP.dadd (4598175219545276416 : UInt64) (FP.ddiv (FP.dmul (4604930618986332160 : UInt64) (FP.i2d rr_1)) (FP.i2d rr_3))))), .second, .val (.double (FP.dmul (4608083138725491507 : UInt64) (FP.dadd (4598175219545276416 : UInt64) (FP.ddiv (FP.dmul (4604930618986332160 : UInt64) (FP.i2d rr_2)) (FP.i2d rr_3))))), .second, .val (.double (FP.dmul (4608083138725491507 : UInt64) (FP.dadd (4598175219545276416 : UInt64) (FP.ddiv (FP.dmul (4604930618986332160 : UInt64) (FP.i2d rr_1)) (FP.i2d rr_4))))), .second, .val (.int (1 : Int32)), .val (.int (1 : Int32)), .val (.int (1 : Int32)), .val (.int (p4 &&& (1023 : Int32))), .unset, .unset, .unset, .unset, .unset, .unset] [(.int (1048575 : Int32)), (.int p5)])) _
    refine XS.iand X7.here hx rfl (hb hby at_155) rfl ?_
    show Steps p.tables e below (T7.setTop (mkF m 156 #[.val (.int p0), .val (.int p1), .val (.int p2), .val (.int p3), .val (.int p4), .val (.int p5), .val (.int (p0 &&& (2147483647 : Int32))), .val (.int (p1 &&& (2147483647 : Int32))), .val (.int rr_1), .val (.int rr_2), .val (.int ((p2 &&& (1073741823 : Int32)) + (1 : Int32))), .val (.int ((p3 &&& (1073741823 : Int32)) + (1 : Int32))), .val (.int rr_3), .val (.int rr_4), .val (.double (FP.dmul (4608083138725491507 : UInt64) (FP.dadd (4598175219545276416 : UInt64) (FP.ddiv (FP.dmul (4604930618986332160 : UInt64) (FP.i2d rr_1)) (FP.i2d rr_3))))), .second, .val (.double (FP.dmul (4608083138725491507 : UInt64) (FP.dadd (4598175219545276416 : UInt64) (FP.ddiv (FP.dmul (4604930618986332160 : UInt64) (FP.i2d rr_2)) (FP.i2d rr_3))))), .second, .val (.double (FP.dmul (4608083138725491507 : UInt64) (FP.dadd (4598175219545276416 : UInt64) (FP.ddiv (FP.dmul (4604930618986332160 : UInt64) (FP.i2d rr_1)) (FP.i2d rr_4))))), .second, .val (.int (1 : Int32)), .val (.int (1 : Int32)), .val (.int (1 : Int32)), .val (.int (p4 &&& (1023 : Int32))), .unset, .unset, .unset, .unset, .unset, .unset] [(.int (p5 &&& (1048575 : Int32)))])) _
    refine XS.iconst X7.here hx rfl (hb hby at_156) ?_
    show Steps p.tables e below (T7.setTop (mkF m 157 #[.val (.int p0), .val (.int p1), .val (.int p2), .val (.int p3), .val (.int p4), .val (.int p5), .val (.int (p0 &&& (2147483647 : Int32))), .val (.int (p1 &&& (2147483647 : Int32))), .val (.int rr_1), .val (.int rr_2), .val (.int ((p2 &&& (1073741823 : Int32)) + (1 : Int32))), .val (.int ((p3 &&& (1073741823 : Int32)) + (1 : Int32))), .val (.int rr_3), .val (.int rr_4), .val (.double (FP.dmul (4608083138725491507 : UInt64) (FP.dadd (4598175219545276416 : UInt64) (FP.ddiv (FP.dmul (4604930618986332160 : UInt64) (FP.i2d rr_1)) (FP.i2d rr_3))))), .second, .val (.double (FP.dmul (4608083138725491507 : UInt64) (FP.dadd (4598175219545276416 : UInt64) (FP.ddiv (FP.dmul (4604930618986332160 : UInt64) (FP.i2d rr_2)) (FP.i2d rr_3))))), .second, .val (.double (FP.dmul (4608083138725491507 : UInt64) (FP.dadd (4598175219545276416 : UInt64) (FP.ddiv (FP.dmul (4604930618986332160 : UInt64) (FP.i2d rr_1)) (FP.i2d rr_4))))), .second, .val (.int (1 : Int32)), .val (.int (1 : Int32)), .val (.int (1 : Int32)), .val (.int (p4 &&& (1023 : Int32))), .unset, .unset, .unset, .unset, .unset, .unset] [(.int (1 : Int32)), (.int (p5 &&& (1048575 : Int32)))])) _
    refine XS.iadd X7.here hx rfl (hb hby at_157) rfl ?_
    show Steps p.tables e below (T7.setTop (mkF m 158 #[.val (.int p0), .val (.int p1), .val (.int p2), .val (.int p3), .val (.int p4), .val (.int p5), .val (.int (p0 &&& (2147483647 : Int32))), .val (.int (p1 &&& (2147483647 : Int32))), .val (.int rr_1), .val (.int rr_2), .val (.int ((p2 &&& (1073741823 : Int32)) + (1 : Int32))), .val (.int ((p3 &&& (1073741823 : Int32)) + (1 : Int32))), .val (.int rr_3), .val (.int rr_4), .val (.double (FP.dmul (4608083138725491507 : UInt64) (FP.dadd (4598175219545276416 : UInt64) (FP.ddiv (FP.dmul (4604930618986332160 : UInt64) (FP.i2d rr_1)) (FP.i2d rr_3))))), .second, .val (.double (FP.dmul (4608083138725491507 : UInt64) (FP.dadd (4598175219545276416 : UInt64) (FP.ddiv (FP.dmul (4604930618986332160 : UInt64) (FP.i2d rr_2)) (FP.i2d rr_3))))), .second, .val (.double (FP.dmul (4608083138725491507 : UInt64) (FP.dadd (4598175219545276416 : UInt64) (FP.ddiv (FP.dmul (4604930618986332160 : UInt64) (FP.i2d rr_1)) (FP.i2d rr_4))))), .second, .val (.int (1 : Int32)), .val (.int (1 : Int32)), .val (.int (1 : Int32)), .val (.int (p4 &&& (1023 : Int32))), .unset, .unset, .unset, .unset, .unset, .unset] [(.int ((p5 &&& (1048575 : Int32)) + (1 : Int32)))])) _
    refine XS.istore X7.here hx rfl (hb hby at_158) rfl (l' := #[.val (.int p0), .val (.int p1), .val (.int p2), .val (.int p3), .val (.int p4), .val (.int p5), .val (.int (p0 &&& (2147483647 : Int32))), .val (.int (p1 &&& (2147483647 : Int32))), .val (.int rr_1), .val (.int rr_2), .val (.int ((p2 &&& (1073741823 : Int32)) + (1 : Int32))), .val (.int ((p3 &&& (1073741823 : Int32)) + (1 : Int32))), .val (.int rr_3), .val (.int rr_4), .val (.double (FP.dmul (4608083138725491507 : UInt64) (FP.dadd (4598175219545276416 : UInt64) (FP.ddiv (FP.dmul (4604930618986332160 : UInt64) (FP.i2d rr_1)) (FP.i2d rr_3))))), .second, .val (.double (FP.dmul (4608083138725491507 : UInt64) (FP.dadd (4598175219545276416 : UInt64) (FP.ddiv (FP.dmul (4604930618986332160 : UInt64) (FP.i2d rr_2)) (FP.i2d rr_3))))), .second, .val (.double (FP.dmul (4608083138725491507 : UInt64) (FP.dadd (4598175219545276416 : UInt64) (FP.ddiv (FP.dmul (4604930618986332160 : UInt64) (FP.i2d rr_1)) (FP.i2d rr_4))))), .second, .val (.int (1 : Int32)), .val (.int (1 : Int32)), .val (.int (1 : Int32)), .val (.int (p4 &&& (1023 : Int32))), .val (.int ((p5 &&& (1048575 : Int32)) + (1 : Int32))), .unset, .unset, .unset, .unset, .unset]) rfl ?_
    show Steps p.tables e below (T7.setTop (mkF m 160 #[.val (.int p0), .val (.int p1), .val (.int p2), .val (.int p3), .val (.int p4), .val (.int p5), .val (.int (p0 &&& (2147483647 : Int32))), .val (.int (p1 &&& (2147483647 : Int32))), .val (.int rr_1), .val (.int rr_2), .val (.int ((p2 &&& (1073741823 : Int32)) + (1 : Int32))), .val (.int ((p3 &&& (1073741823 : Int32)) + (1 : Int32))), .val (.int rr_3), .val (.int rr_4), .val (.double (FP.dmul (4608083138725491507 : UInt64) (FP.dadd (4598175219545276416 : UInt64) (FP.ddiv (FP.dmul (4604930618986332160 : UInt64) (FP.i2d rr_1)) (FP.i2d rr_3))))), .second, .val (.double (FP.dmul (4608083138725491507 : UInt64) (FP.dadd (4598175219545276416 : UInt64) (FP.ddiv (FP.dmul (4604930618986332160 : UInt64) (FP.i2d rr_2)) (FP.i2d rr_3))))), .second, .val (.double (FP.dmul (4608083138725491507 : UInt64) (FP.dadd (4598175219545276416 : UInt64) (FP.ddiv (FP.dmul (4604930618986332160 : UInt64) (FP.i2d rr_1)) (FP.i2d rr_4))))), .second, .val (.int (1 : Int32)), .val (.int (1 : Int32)), .val (.int (1 : Int32)), .val (.int (p4 &&& (1023 : Int32))), .val (.int ((p5 &&& (1048575 : Int32)) + (1 : Int32))), .unset, .unset, .unset, .unset, .unset] [])) _
    refine XS.iload X7.here hx rfl (hb hby at_160) rfl ?_
    show Steps p.tables e below (T7.setTop (mkF m 162 #[.val (.int p0), .val (.int p1), .val (.int p2), .val (.int p3), .val (.int p4), .val (.int p5), .val (.int (p0 &&& (2147483647 : Int32))), .val (.int (p1 &&& (2147483647 : Int32))), .val (.int rr_1), .val (.int rr_2), .val (.int ((p2 &&& (1073741823 : Int32)) + (1 : Int32))), .val (.int ((p3 &&& (1073741823 : Int32)) + (1 : Int32))), .val (.int rr_3), .val (.int rr_4), .val (.double (FP.dmul (4608083138725491507 : UInt64) (FP.dadd (4598175219545276416 : UInt64) (FP.ddiv (FP.dmul (4604930618986332160 : UInt64) (FP.i2d rr_1)) (FP.i2d rr_3))))), .second, .val (.double (FP.dmul (4608083138725491507 : UInt64) (FP.dadd (4598175219545276416 : UInt64) (FP.ddiv (FP.dmul (4604930618986332160 : UInt64) (FP.i2d rr_2)) (FP.i2d rr_3))))), .second, .val (.double (FP.dmul (4608083138725491507 : UInt64) (FP.dadd (4598175219545276416 : UInt64) (FP.ddiv (FP.dmul (4604930618986332160 : UInt64) (FP.i2d rr_1)) (FP.i2d rr_4))))), .second, .val (.int (1 : Int32)), .val (.int (1 : Int32)), .val (.int (1 : Int32)), .val (.int (p4 &&& (1023 : Int32))), .val (.int ((p5 &&& (1048575 : Int32)) + (1 : Int32))), .unset, .unset, .unset, .unset, .unset] [(.int (p4 &&& (1023 : Int32)))])) _
    refine XS.iload X7.here hx rfl (hb hby at_162) rfl ?_
    show Steps p.tables e below (T7.setTop (mkF m 164 #[.val (.int p0), .val (.int p1), .val (.int p2), .val (.int p3), .val (.int p4), .val (.int p5), .val (.int (p0 &&& (2147483647 : Int32))), .val (.int (p1 &&& (2147483647 : Int32))), .val (.int rr_1), .val (.int rr_2), .val (.int ((p2 &&& (1073741823 : Int32)) + (1 : Int32))), .val (.int ((p3 &&& (1073741823 : Int32)) + (1 : Int32))), .val (.int rr_3), .val (.int rr_4), .val (.double (FP.dmul (4608083138725491507 : UInt64) (FP.dadd (4598175219545276416 : UInt64) (FP.ddiv (FP.dmul (4604930618986332160 : UInt64) (FP.i2d rr_1)) (FP.i2d rr_3))))), .second, .val (.double (FP.dmul (4608083138725491507 : UInt64) (FP.dadd (4598175219545276416 : UInt64) (FP.ddiv (FP.dmul (4604930618986332160 : UInt64) (FP.i2d rr_2)) (FP.i2d rr_3))))), .second, .val (.double (FP.dmul (4608083138725491507 : UInt64) (FP.dadd (4598175219545276416 : UInt64) (FP.ddiv (FP.dmul (4604930618986332160 : UInt64) (FP.i2d rr_1)) (FP.i2d rr_4))))), .second, .val (.int (1 : Int32)), .val (.int (1 : Int32)), .val (.int (1 : Int32)), .val (.int (p4 &&& (1023 : Int32))), .val (.int ((p5 &&& (1048575 : Int32)) + (1 : Int32))), .unset, .unset, .unset, .unset, .unset] [(.int ((p5 &&& (1048575 : Int32)) + (1 : Int32))), (.int (p4 &&& (1023 : Int32)))])) _
    refine XS.imul X7.here hx rfl (hb hby at_164) rfl ?_
    show Steps p.tables e below (T7.setTop (mkF m 165 #[.val (.int p0), .val (.int p1), .val (.int p2), .val (.int p3), .val (.int p4), .val (.int p5), .val (.int (p0 &&& (2147483647 : Int32))), .val (.int (p1 &&& (2147483647 : Int32))), .val (.int rr_1), .val (.int rr_2), .val (.int ((p2 &&& (1073741823 : Int32)) + (1 : Int32))), .val (.int ((p3 &&& (1073741823 : Int32)) + (1 : Int32))), .val (.int rr_3), .val (.int rr_4), .val (.double (FP.dmul (4608083138725491507 : UInt64) (FP.dadd (4598175219545276416 : UInt64) (FP.ddiv (FP.dmul (4604930618986332160 : UInt64) (FP.i2d rr_1)) (FP.i2d rr_3))))), .second, .val (.double (FP.dmul (4608083138725491507 : UInt64) (FP.dadd (4598175219545276416 : UInt64) (FP.ddiv (FP.dmul (4604930618986332160 : UInt64) (FP.i2d rr_2)) (FP.i2d rr_3))))), .second, .val (.double (FP.dmul (4608083138725491507 : UInt64) (FP.dadd (4598175219545276416 : UInt64) (FP.ddiv (FP.dmul (4604930618986332160 : UInt64) (FP.i2d rr_1)) (FP.i2d rr_4))))), .second, .val (.int (1 : Int32)), .val (.int (1 : Int32)), .val (.int (1 : Int32)), .val (.int (p4 &&& (1023 : Int32))), .val (.int ((p5 &&& (1048575 : Int32)) + (1 : Int32))), .unset, .unset, .unset, .unset, .unset] [(.int ((p4 &&& (1023 : Int32)) * ((p5 &&& (1048575 : Int32)) + (1 : Int32))))])) _
    refine XS.i2dS X7.here hx rfl (hb hby at_165) rfl (v := FP.i2d ((p4 &&& (1023 : Int32)) * ((p5 &&& (1048575 : Int32)) + (1 : Int32)))) rfl ?_
    show Steps p.tables e below (T7.setTop (mkF m 166 #[.val (.int p0), .val (.int p1), .val (.int p2), .val (.int p3), .val (.int p4), .val (.int p5), .val (.int (p0 &&& (2147483647 : Int32))), .val (.int (p1 &&& (2147483647 : Int32))), .val (.int rr_1), .val (.int rr_2), .val (.int ((p2 &&& (1073741823 : Int32)) + (1 : Int32))), .val (.int ((p3 &&& (1073741823 : Int32)) + (1 : Int32))), .val (.int rr_3), .val (.int rr_4), .val (.double (FP.dmul (4608083138725491507 : UInt64) (FP.dadd (4598175219545276416 : UInt64) (FP.ddiv (FP.dmul (4604930618986332160 : UInt64) (FP.i2d rr_1)) (FP.i2d rr_3))))), .second, .val (.double (FP.dmul (4608083138725491507 : UInt64) (FP.dadd (4598175219545276416 : UInt64) (FP.ddiv (FP.dmul (4604930618986332160 : UInt64) (FP.i2d rr_2)) (FP.i2d rr_3))))), .second, .val (.double (FP.dmul (4608083138725491507 : UInt64) (FP.dadd (4598175219545276416 : UInt64) (FP.ddiv (FP.dmul (4604930618986332160 : UInt64) (FP.i2d rr_1)) (FP.i2d rr_4))))), .second, .val (.int (1 : Int32)), .val (.int (1 : Int32)), .val (.int (1 : Int32)), .val (.int (p4 &&& (1023 : Int32))), .val (.int ((p5 &&& (1048575 : Int32)) + (1 : Int32))), .unset, .unset, .unset, .unset, .unset] [(.double (FP.i2d ((p4 &&& (1023 : Int32)) * ((p5 &&& (1048575 : Int32)) + (1 : Int32)))))])) _
    refine XS.iload X7.here hx rfl (hb hby at_166) rfl ?_
    show Steps p.tables e below (T7.setTop (mkF m 168 #[.val (.int p0), .val (.int p1), .val (.int p2), .val (.int p3), .val (.int p4), .val (.int p5), .val (.int (p0 &&& (2147483647 : Int32))), .val (.int (p1 &&& (2147483647 : Int32))), .val (.int rr_1), .val (.int rr_2), .val (.int ((p2 &&& (1073741823 : Int32)) + (1 : Int32))), .val (.int ((p3 &&& (1073741823 : Int32)) + (1 : Int32))), .val (.int rr_3), .val (.int rr_4), .val (.double (FP.dmul (4608083138725491507 : UInt64) (FP.dadd (4598175219545276416 : UInt64) (FP.ddiv (FP.dmul (4604930618986332160 : UInt64) (FP.i2d rr_1)) (FP.i2d rr_3))))), .second, .val (.double (FP.dmul (4608083138725491507 : UInt64) (FP.dadd (4598175219545276416 : UInt64) (FP.ddiv (FP.dmul (4604930618986332160 : UInt64) (FP.i2d rr_2)) (FP.i2d rr_3))))), .second, .val (.double (FP.dmul (4608083138725491507 : UInt64) (FP.dadd (4598175219545276416 : UInt64) (FP.ddiv (FP.dmul (4604930618986332160 : UInt64) (FP.i2d rr_1)) (FP.i2d rr_4))))), .second, .val (.int (1 : Int32)), .val (.int (1 : Int32)), .val (.int (1 : Int32)), .val (.int (p4 &&& (1023 : Int32))), .val (.int ((p5 &&& (1048575 : Int32)) + (1 : Int32))), .unset, .unset, .unset, .unset, .unset] [(.int ((p5 &&& (1048575 : Int32)) + (1 : Int32))), (.double (FP.i2d ((p4 &&& (1023 : Int32)) * ((p5 &&& (1048575 : Int32)) + (1 : Int32)))))])) _
    refine XS.i2dS X7.here hx rfl (hb hby at_168) rfl (v := FP.i2d ((p5 &&& (1048575 : Int32)) + (1 : Int32))) rfl ?_
    show Steps p.tables e below (T7.setTop (mkF m 169 #[.val (.int p0), .val (.int p1), .val (.int p2), .val (.int p3), .val (.int p4), .val (.int p5), .val (.int (p0 &&& (2147483647 : Int32))), .val (.int (p1 &&& (2147483647 : Int32))), .val (.int rr_1), .val (.int rr_2), .val (.int ((p2 &&& (1073741823 : Int32)) + (1 : Int32))), .val (.int ((p3 &&& (1073741823 : Int32)) + (1 : Int32))), .val (.int rr_3), .val (.int rr_4), .val (.double (FP.dmul (4608083138725491507 : UInt64) (FP.dadd (4598175219545276416 : UInt64) (FP.ddiv (FP.dmul (4604930618986332160 : UInt64) (FP.i2d rr_1)) (FP.i2d rr_3))))), .second, .val (.double (FP.dmul (4608083138725491507 : UInt64) (FP.dadd (4598175219545276416 : UInt64) (FP.ddiv (FP.dmul (4604930618986332160 : UInt64) (FP.i2d rr_2)) (FP.i2d rr_3))))), .second, .val (.double (FP.dmul (4608083138725491507 : UInt64) (FP.dadd (4598175219545276416 : UInt64) (FP.ddiv (FP.dmul (4604930618986332160 : UInt64) (FP.i2d rr_1)) (FP.i2d rr_4))))), .second, .val (.int (1 : Int32)), .val (.int (1 : Int32)), .val (.int (1 : Int32)), .val (.int (p4 &&& (1023 : Int32))), .val (.int ((p5 &&& (1048575 : Int32)) + (1 : Int32))), .unset, .unset, .unset, .unset, .unset] [(.double (FP.i2d ((p5 &&& (1048575 : Int32)) + (1 : Int32)))), (.double (FP.i2d ((p4 &&& (1023 : Int32)) * ((p5 &&& (1048575 : Int32)) + (1 : Int32)))))])) _
    refine st8 _ ?_
    show Steps p.tables e below (T8.setTop (mkF m 172 #[.val (.int p0), .val (.int p1), .val (.int p2), .val (.int p3), .val (.int p4), .val (.int p5), .val (.int (p0 &&& (2147483647 : Int32))), .val (.int (p1 &&& (2147483647 : Int32))), .val (.int rr_1), .val (.int rr_2), .val (.int ((p2 &&& (1073741823 : Int32)) + (1 : Int32))), .val (.int ((p3 &&& (1073741823 : Int32)) + (1 : Int32))), .val (.int rr_3), .val (.int rr_4), .val (.double (FP.dmul (4608083138725491507 : UInt64) (FP.dadd (4598175219545276416 : UInt64) (FP.ddiv (FP.dmul (4604930618986332160 : UInt64) (FP.i2d rr_1)) (FP.i2d rr_3))))), .second, .val (.double (FP.dmul (4608083138725491507 : UInt64) (FP.dadd (4598175219545276416 : UInt64) (FP.ddiv (FP.dmul (4604930618986332160 : UInt64) (FP.i2d rr_2)) (FP.i2d rr_3))))), .second, .val (.double (FP.dmul (4608083138725491507 : UInt64) (FP.dadd (4598175219545276416 : UInt64) (FP.ddiv (FP.dmul (4604930618986332160 : UInt64) (FP.i2d rr_1)) (FP.i2d rr_4))))), .second, .val (.int (1 : Int32)), .val (.int (1 : Int32)), .val (.int (1 : Int32)), .val (.int (p4 &&& (1023 : Int32))), .val (.int ((p5 &&& (1048575 : Int32)) + (1 : Int32))), .unset, .unset, .unset, .unset, .unset] [(.double (FP.dmul (4608083138725491507 : UInt64) (FP.dadd (4598175219545276416 : UInt64) (FP.ddiv (FP.dmul (4604930618986332160 : UInt64) (FP.i2d ((p4 &&& (1023 : Int32)) * ((p5 &&& (1048575 : Int32)) + (1 : Int32))))) (FP.i2d ((p5 &&& (1048575 : Int32)) + (1 : Int32)))))))])) _
    refine XS.dstore X8.here hx rfl (hb hby at_172) rfl (l' := #[.val (.int p0), .val (.int p1), .val (.int p2), .val (.int p3), .val (.int p4), .val (.int p5), .val (.int (p0 &&& (2147483647 : Int32))), .val (.int (p1 &&& (2147483647 : Int32))), .val (.int rr_1), .val (.int rr_2), .val (.int ((p2 &&& (1073741823 : Int32)) + (1 : Int32))), .val (.int ((p3 &&& (1073741823 : Int32)) + (1 : Int32))), .val (.int rr_3), .val (.int rr_4), .val (.double (FP.dmul (4608083138725491507 : UInt64) (FP.dadd (4598175219545276416 : UInt64) (FP.ddiv (FP.dmul (4604930618986332160 : UInt64) (FP.i2d rr_1)) (FP.i2d rr_3))))), .second, .val (.double (FP.dmul (4608083138725491507 : UInt64) (FP.dadd (4598175219545276416 : UInt64) (FP.ddiv (FP.dmul (4604930618986332160 : UInt64) (FP.i2d rr_2)) (FP.i2d rr_3))))), .second, .val (.double (FP.dmul (4608083138725491507 : UInt64) (FP.dadd (4598175219545276416 : UInt64) (FP.ddiv (FP.dmul (4604930618986332160 : UInt64) (FP.i2d rr_1)) (FP.i2d rr_4))))), .second, .val (.int (1 : Int32)), .val (.int (1 : Int32)), .val (.int (1 : Int32)), .val (.int (p4 &&& (1023 : Int32))), .val (.int ((p5 &&& (1048575 : Int32)) + (1 : Int32))), .val (.double (FP.dmul (4608083138725491507 : UInt64) (FP.dadd (4598175219545276416 : UInt64) (FP.ddiv (FP.dmul (4604930618986332160 : UInt64) (FP.i2d ((p4 &&& (1023 : Int32)) * ((p5 &&& (1048575 : Int32)) + (1 : Int32))))) (FP.i2d ((p5 &&& (1048575 : Int32)) + (1 : Int32))))))), .second, .unset, .unset, .unset]) rfl ?_
    show Steps p.tables e below (T8.setTop (mkF m 174 #[.val (.int p0), .val (.int p1), .val (.int p2), .val (.int p3), .val (.int p4), .val (.int p5), .val (.int (p0 &&& (2147483647 : Int32))), .val (.int (p1 &&& (2147483647 : Int32))), .val (.int rr_1), .val (.int rr_2), .val (.int ((p2 &&& (1073741823 : Int32)) + (1 : Int32))), .val (.int ((p3 &&& (1073741823 : Int32)) + (1 : Int32))), .val (.int rr_3), .val (.int rr_4), .val (.double (FP.dmul (4608083138725491507 : UInt64) (FP.dadd (4598175219545276416 : UInt64) (FP.ddiv (FP.dmul (4604930618986332160 : UInt64) (FP.i2d rr_1)) (FP.i2d rr_3))))), .second, .val (.double (FP.dmul (4608083138725491507 : UInt64) (FP.dadd (4598175219545276416 : UInt64) (FP.ddiv (FP.dmul (4604930618986332160 : UInt64) (FP.i2d rr_2)) (FP.i2d rr_3))))), .second, .val (.double (FP.dmul (4608083138725491507 : UInt64) (FP.dadd (4598175219545276416 : UInt64) (FP.ddiv (FP.dmul (4604930618986332160 : UInt64) (FP.i2d rr_1)) (FP.i2d rr_4))))), .second, .val (.int (1 : Int32)), .val (.int (1 : Int32)), .val (.int (1 : Int32)), .val (.int (p4 &&& (1023 : Int32))), .val (.int ((p5 &&& (1048575 : Int32)) + (1 : Int32))), .val (.double (FP.dmul (4608083138725491507 : UInt64) (FP.dadd (4598175219545276416 : UInt64) (FP.ddiv (FP.dmul (4604930618986332160 : UInt64) (FP.i2d ((p4 &&& (1023 : Int32)) * ((p5 &&& (1048575 : Int32)) + (1 : Int32))))) (FP.i2d ((p5 &&& (1048575 : Int32)) + (1 : Int32))))))), .second, .unset, .unset, .unset] [])) _
    refine X8.ldc2DoubleC hx hown (mvT hZ (own_k hw 18 rfl)) (g := (mkF m 174 #[.val (.int p0), .val (.int p1), .val (.int p2), .val (.int p3), .val (.int p4), .val (.int p5), .val (.int (p0 &&& (2147483647 : Int32))), .val (.int (p1 &&& (2147483647 : Int32))), .val (.int rr_1), .val (.int rr_2), .val (.int ((p2 &&& (1073741823 : Int32)) + (1 : Int32))), .val (.int ((p3 &&& (1073741823 : Int32)) + (1 : Int32))), .val (.int rr_3), .val (.int rr_4), .val (.double (FP.dmul (4608083138725491507 : UInt64) (FP.dadd (4598175219545276416 : UInt64) (FP.ddiv (FP.dmul (4604930618986332160 : UInt64) (FP.i2d rr_1)) (FP.i2d rr_3))))), .second, .val (.double (FP.dmul (4608083138725491507 : UInt64) (FP.dadd (4598175219545276416 : UInt64) (FP.ddiv (FP.dmul (4604930618986332160 : UInt64) (FP.i2d rr_2)) (FP.i2d rr_3))))), .second, .val (.double (FP.dmul (4608083138725491507 : UInt64) (FP.dadd (4598175219545276416 : UInt64) (FP.ddiv (FP.dmul (4604930618986332160 : UInt64) (FP.i2d rr_1)) (FP.i2d rr_4))))), .second, .val (.int (1 : Int32)), .val (.int (1 : Int32)), .val (.int (1 : Int32)), .val (.int (p4 &&& (1023 : Int32))), .val (.int ((p5 &&& (1048575 : Int32)) + (1 : Int32))), .val (.double (FP.dmul (4608083138725491507 : UInt64) (FP.dadd (4598175219545276416 : UInt64) (FP.ddiv (FP.dmul (4604930618986332160 : UInt64) (FP.i2d ((p4 &&& (1023 : Int32)) * ((p5 &&& (1048575 : Int32)) + (1 : Int32))))) (FP.i2d ((p5 &&& (1048575 : Int32)) + (1 : Int32))))))), .second, .unset, .unset, .unset] [])) rfl (hb hby at_174) _ ?_
    show Steps p.tables e below (T8.setTop (mkF m 177 #[.val (.int p0), .val (.int p1), .val (.int p2), .val (.int p3), .val (.int p4), .val (.int p5), .val (.int (p0 &&& (2147483647 : Int32))), .val (.int (p1 &&& (2147483647 : Int32))), .val (.int rr_1), .val (.int rr_2), .val (.int ((p2 &&& (1073741823 : Int32)) + (1 : Int32))), .val (.int ((p3 &&& (1073741823 : Int32)) + (1 : Int32))), .val (.int rr_3), .val (.int rr_4), .val (.double (FP.dmul (4608083138725491507 : UInt64) (FP.dadd (4598175219545276416 : UInt64) (FP.ddiv (FP.dmul (4604930618986332160 : UInt64) (FP.i2d rr_1)) (FP.i2d rr_3))))), .second, .val (.double (FP.dmul (4608083138725491507 : UInt64) (FP.dadd (4598175219545276416 : UInt64) (FP.ddiv (FP.dmul (4604930618986332160 : UInt64) (FP.i2d rr_2)) (FP.i2d rr_3))))), .second, .val (.double (FP.dmul (4608083138725491507 : UInt64) (FP.dadd (4598175219545276416 : UInt64) (FP.ddiv (FP.dmul (4604930618986332160 : UInt64) (FP.i2d rr_1)) (FP.i2d rr_4))))), .second, .val (.int (1 : Int32)), .val (.int (1 : Int32)), .val (.int (1 : Int32)), .val (.int (p4 &&& (1023 : Int32))), .val (.int ((p5 &&& (1048575 : Int32)) + (1 : Int32))), .val (.double (FP.dmul (4608083138725491507 : UInt64) (FP.dadd (4598175219545276416 : UInt64) (FP.ddiv (FP.dmul (4604930618986332160 : UInt64) (FP.i2d ((p4 &&& (1023 : Int32)) * ((p5 &&& (1048575 : Int32)) + (1 : Int32))))) (FP.i2d ((p5 &&& (1048575 : Int32)) + (1 : Int32))))))), .second, .unset, .unset, .unset] [(.double (4608083138725491507 : UInt64))])) _
    refine XS.iconst X8.here hx rfl (hb hby at_177) ?_
    show Steps p.tables e below (T8.setTop (mkF m 178 #[.val (.int p0), .val (.int p1), .val (.int p2), .val (.int p3), .val (.int p4), .val (.int p5), .val (.int (p0 &&& (2147483647 : Int32))), .val (.int (p1 &&& (2147483647 : Int32))), .val (.int rr_1), .val (.int rr_2), .val (.int ((p2 &&& (1073741823 : Int32)) + (1 : Int32))), .val (.int ((p3 &&& (1073741823 : Int32)) + (1 : Int32))), .val (.int rr_3), .val (.int rr_4), .val (.double (FP.dmul (4608083138725491507 : UInt64) (FP.dadd (4598175219545276416 : UInt64) (FP.ddiv (FP.dmul (4604930618986332160 : UInt64) (FP.i2d rr_1)) (FP.i2d rr_3))))), .second, .val (.double (FP.dmul (4608083138725491507 : UInt64) (FP.dadd (4598175219545276416 : UInt64) (FP.ddiv (FP.dmul (4604930618986332160 : UInt64) (FP.i2d rr_2)) (FP.i2d rr_3))))), .second, .val (.double (FP.dmul (4608083138725491507 : UInt64) (FP.dadd (4598175219545276416 : UInt64) (FP.ddiv (FP.dmul (4604930618986332160 : UInt64) (FP.i2d rr_1)) (FP.i2d rr_4))))), .second, .val (.int (1 : Int32)), .val (.int (1 : Int32)), .val (.int (1 : Int32)), .val (.int (p4 &&& (1023 : Int32))), .val (.int ((p5 &&& (1048575 : Int32)) + (1 : Int32))), .val (.double (FP.dmul (4608083138725491507 : UInt64) (FP.dadd (4598175219545276416 : UInt64) (FP.ddiv (FP.dmul (4604930618986332160 : UInt64) (FP.i2d ((p4 &&& (1023 : Int32)) * ((p5 &&& (1048575 : Int32)) + (1 : Int32))))) (FP.i2d ((p5 &&& (1048575 : Int32)) + (1 : Int32))))))), .second, .unset, .unset, .unset] [(.int (3 : Int32)), (.double (4608083138725491507 : UInt64))])) _
    refine XS.iload X8.here hx rfl (hb hby at_178) rfl ?_
    show Steps p.tables e below (T8.setTop (mkF m 180 #[.val (.int p0), .val (.int p1), .val (.int p2), .val (.int p3), .val (.int p4), .val (.int p5), .val (.int (p0 &&& (2147483647 : Int32))), .val (.int (p1 &&& (2147483647 : Int32))), .val (.int rr_1), .val (.int rr_2), .val (.int ((p2 &&& (1073741823 : Int32)) + (1 : Int32))), .val (.int ((p3 &&& (1073741823 : Int32)) + (1 : Int32))), .val (.int rr_3), .val (.int rr_4), .val (.double (FP.dmul (4608083138725491507 : UInt64) (FP.dadd (4598175219545276416 : UInt64) (FP.ddiv (FP.dmul (4604930618986332160 : UInt64) (FP.i2d rr_1)) (FP.i2d rr_3))))), .second, .val (.double (FP.dmul (4608083138725491507 : UInt64) (FP.dadd (4598175219545276416 : UInt64) (FP.ddiv (FP.dmul (4604930618986332160 : UInt64) (FP.i2d rr_2)) (FP.i2d rr_3))))), .second, .val (.double (FP.dmul (4608083138725491507 : UInt64) (FP.dadd (4598175219545276416 : UInt64) (FP.ddiv (FP.dmul (4604930618986332160 : UInt64) (FP.i2d rr_1)) (FP.i2d rr_4))))), .second, .val (.int (1 : Int32)), .val (.int (1 : Int32)), .val (.int (1 : Int32)), .val (.int (p4 &&& (1023 : Int32))), .val (.int ((p5 &&& (1048575 : Int32)) + (1 : Int32))), .val (.double (FP.dmul (4608083138725491507 : UInt64) (FP.dadd (4598175219545276416 : UInt64) (FP.ddiv (FP.dmul (4604930618986332160 : UInt64) (FP.i2d ((p4 &&& (1023 : Int32)) * ((p5 &&& (1048575 : Int32)) + (1 : Int32))))) (FP.i2d ((p5 &&& (1048575 : Int32)) + (1 : Int32))))))), .second, .unset, .unset, .unset] [(.int (p4 &&& (1023 : Int32))), (.int (3 : Int32)), (.double (4608083138725491507 : UInt64))])) _
    refine XS.imul X8.here hx rfl (hb hby at_180) rfl ?_
    show Steps p.tables e below (T8.setTop (mkF m 181 #[.val (.int p0), .val (.int p1), .val (.int p2), .val (.int p3), .val (.int p4), .val (.int p5), .val (.int (p0 &&& (2147483647 : Int32))), .val (.int (p1 &&& (2147483647 : Int32))), .val (.int rr_1), .val (.int rr_2), .val (.int ((p2 &&& (1073741823 : Int32)) + (1 : Int32))), .val (.int ((p3 &&& (1073741823 : Int32)) + (1 : Int32))), .val (.int rr_3), .val (.int rr_4), .val (.double (FP.dmul (4608083138725491507 : UInt64) (FP.dadd (4598175219545276416 : UInt64) (FP.ddiv (FP.dmul (4604930618986332160 : UInt64) (FP.i2d rr_1)) (FP.i2d rr_3))))), .second, .val (.double (FP.dmul (4608083138725491507 : UInt64) (FP.dadd (4598175219545276416 : UInt64) (FP.ddiv (FP.dmul (4604930618986332160 : UInt64) (FP.i2d rr_2)) (FP.i2d rr_3))))), .second, .val (.double (FP.dmul (4608083138725491507 : UInt64) (FP.dadd (4598175219545276416 : UInt64) (FP.ddiv (FP.dmul (4604930618986332160 : UInt64) (FP.i2d rr_1)) (FP.i2d rr_4))))), .second, .val (.int (1 : Int32)), .val (.int (1 : Int32)), .val (.int (1 : Int32)), .val (.int (p4 &&& (1023 : Int32))), .val (.int ((p5 &&& (1048575 : Int32)) + (1 : Int32))), .val (.double (FP.dmul (4608083138725491507 : UInt64) (FP.dadd (4598175219545276416 : UInt64) (FP.ddiv (FP.dmul (4604930618986332160 : UInt64) (FP.i2d ((p4 &&& (1023 : Int32)) * ((p5 &&& (1048575 : Int32)) + (1 : Int32))))) (FP.i2d ((p5 &&& (1048575 : Int32)) + (1 : Int32))))))), .second, .unset, .unset, .unset] [(.int ((3 : Int32) * (p4 &&& (1023 : Int32)))), (.double (4608083138725491507 : UInt64))])) _
    refine XS.iconst X8.here hx rfl (hb hby at_181) ?_
    show Steps p.tables e below (T8.setTop (mkF m 182 #[.val (.int p0), .val (.int p1), .val (.int p2), .val (.int p3), .val (.int p4), .val (.int p5), .val (.int (p0 &&& (2147483647 : Int32))), .val (.int (p1 &&& (2147483647 : Int32))), .val (.int rr_1), .val (.int rr_2), .val (.int ((p2 &&& (1073741823 : Int32)) + (1 : Int32))), .val (.int ((p3 &&& (1073741823 : Int32)) + (1 : Int32))), .val (.int rr_3), .val (.int rr_4), .val (.double (FP.dmul (4608083138725491507 : UInt64) (FP.dadd (4598175219545276416 : UInt64) (FP.ddiv (FP.dmul (4604930618986332160 : UInt64) (FP.i2d rr_1)) (FP.i2d rr_3))))), .second, .val (.double (FP.dmul (4608083138725491507 : UInt64) (FP.dadd (4598175219545276416 : UInt64) (FP.ddiv (FP.dmul (4604930618986332160 : UInt64) (FP.i2d rr_2)) (FP.i2d rr_3))))), .second, .val (.double (FP.dmul (4608083138725491507 : UInt64) (FP.dadd (4598175219545276416 : UInt64) (FP.ddiv (FP.dmul (4604930618986332160 : UInt64) (FP.i2d rr_1)) (FP.i2d rr_4))))), .second, .val (.int (1 : Int32)), .val (.int (1 : Int32)), .val (.int (1 : Int32)), .val (.int (p4 &&& (1023 : Int32))), .val (.int ((p5 &&& (1048575 : Int32)) + (1 : Int32))), .val (.double (FP.dmul (4608083138725491507 : UInt64) (FP.dadd (4598175219545276416 : UInt64) (FP.ddiv (FP.dmul (4604930618986332160 : UInt64) (FP.i2d ((p4 &&& (1023 : Int32)) * ((p5 &&& (1048575 : Int32)) + (1 : Int32))))) (FP.i2d ((p5 &&& (1048575 : Int32)) + (1 : Int32))))))), .second, .unset, .unset, .unset] [(.int (1 : Int32)), (.int ((3 : Int32) * (p4 &&& (1023 : Int32)))), (.double (4608083138725491507 : UInt64))])) _
    refine XS.iadd X8.here hx rfl (hb hby at_182) rfl ?_
    show Steps p.tables e below (T8.setTop (mkF m 183 #[.val (.int p0), .val (.int p1), .val (.int p2), .val (.int p3), .val (.int p4), .val (.int p5), .val (.int (p0 &&& (2147483647 : Int32))), .val (.int (p1 &&& (2147483647 : Int32))), .val (.int rr_1), .val (.int rr_2), .val (.int ((p2 &&& (1073741823 : Int32)) + (1 : Int32))), .val (.int ((p3 &&& (1073741823 : Int32)) + (1 : Int32))), .val (.int rr_3), .val (.int rr_4), .val (.double (FP.dmul (4608083138725491507 : UInt64) (FP.dadd (4598175219545276416 : UInt64) (FP.ddiv (FP.dmul (4604930618986332160 : UInt64) (FP.i2d rr_1)) (FP.i2d rr_3))))), .second, .val (.double (FP.dmul (4608083138725491507 : UInt64) (FP.dadd (4598175219545276416 : UInt64) (FP.ddiv (FP.dmul (4604930618986332160 : UInt64) (FP.i2d rr_2)) (FP.i2d rr_3))))), .second, .val (.double (FP.dmul (4608083138725491507 : UInt64) (FP.dadd (4598175219545276416 : UInt64) (FP.ddiv (FP.dmul (4604930618986332160 : UInt64) (FP.i2d rr_1)) (FP.i2d rr_4))))), .second, .val (.int (1 : Int32)), .val (.int (1 : Int32)), .val (.int (1 : Int32)), .val (.int (p4 &&& (1023 : Int32))), .val (.int ((p5 &&& (1048575 : Int32)) + (1 : Int32))), .val (.double (FP.dmul (4608083138725491507 : UInt64) (FP.dadd (4598175219545276416 : UInt64) (FP.ddiv (FP.dmul (4604930618986332160 : UInt64) (FP.i2d ((p4 &&& (1023 : Int32)) * ((p5 &&& (1048575 : Int32)) + (1 : Int32))))) (FP.i2d ((p5 &&& (1048575 : Int32)) + (1 : Int32))))))), .second, .unset, .unset, .unset] [(.int (((3 : Int32) * (p4 &&& (1023 : Int32))) + (1 : Int32))), (.double (4608083138725491507 : UInt64))])) _
    refine XS.i2dS X8.here hx rfl (hb hby at_183) rfl (v := FP.i2d (((3 : Int32) * (p4 &&& (1023 : Int32))) + (1 : Int32))) rfl ?_
    show Steps p.tables e below (T8.setTop (mkF m 184 #[.val (.int p0), .val (.int p1), .val (.int p2), .val (.int p3), .val (.int p4), .val (.int p5), .val (.int (p0 &&& (2147483647 : Int32))), .val (.int (p1 &&& (2147483647 : Int32))), .val (.int rr_1), .val (.int rr_2), .val (.int ((p2 &&& (1073741823 : Int32)) + (1 : Int32))), .val (.int ((p3 &&& (1073741823 : Int32)) + (1 : Int32))), .val (.int rr_3), .val (.int rr_4), .val (.double (FP.dmul (4608083138725491507 : UInt64) (FP.dadd (4598175219545276416 : UInt64) (FP.ddiv (FP.dmul (4604930618986332160 : UInt64) (FP.i2d rr_1)) (FP.i2d rr_3))))), .second, .val (.double (FP.dmul (4608083138725491507 : UInt64) (FP.dadd (4598175219545276416 : UInt64) (FP.ddiv (FP.dmul (4604930618986332160 : UInt64) (FP.i2d rr_2)) (FP.i2d rr_3))))), .second, .val (.double (FP.dmul (4608083138725491507 : UInt64) (FP.dadd (4598175219545276416 : UInt64) (FP.ddiv (FP.dmul (4604930618986332160 : UInt64) (FP.i2d rr_1)) (FP.i2d rr_4))))), .second, .val (.int (1 : Int32)), .val (.int (1 : Int32)), .val (.int (1 : Int32)), .val (.int (p4 &&& (1023 : Int32))), .val (.int ((p5 &&& (1048575 : Int32)) + (1 : Int32))), .val (.double (FP.dmul (4608083138725491507 : UInt64) (FP.dadd (4598175219545276416 : UInt64) (FP.ddiv (FP.dmul (4604930618986332160 : UInt64) (FP.i2d ((p4 &&& (1023 : Int32)) * ((p5 &&& (1048575 : Int32)) + (1 : Int32))))) (FP.i2d ((p5 &&& (1048575 : Int32)) + (1 : Int32))))))), .second, .unset, .unset, .unset] [(.double (FP.i2d (((3 : Int32) * (p4 &&& (1023 : Int32))) + (1 : Int32)))), (.double (4608083138725491507 : UInt64))])) _
    refine X8.ldc2DoubleC hx hown (mvT hZ (own_k hw 19 rfl)) (g := (mkF m 184 #[.val (.int p0), .val (.int p1), .val (.int p2), .val (.int p3), .val (.int p4), .val (.int p5), .val (.int (p0 &&& (2147483647 : Int32))), .val (.int (p1 &&& (2147483647 : Int32))), .val (.int rr_1), .val (.int rr_2), .val (.int ((p2 &&& (1073741823 : Int32)) + (1 : Int32))), .val (.int ((p3 &&& (1073741823 : Int32)) + (1 : Int32))), .val (.int rr_3), .val (.int rr_4), .val (.double (FP.dmul (4608083138725491507 : UInt64) (FP.dadd (4598175219545276416 : UInt64) (FP.ddiv (FP.dmul (4604930618986332160 : UInt64) (FP.i2d rr_1)) (FP.i2d rr_3))))), .second, .val (.double (FP.dmul (4608083138725491507 : UInt64) (FP.dadd (4598175219545276416 : UInt64) (FP.ddiv (FP.dmul (4604930618986332160 : UInt64) (FP.i2d rr_2)) (FP.i2d rr_3))))), .second, .val (.double (FP.dmul (4608083138725491507 : UInt64) (FP.dadd (4598175219545276416 : UInt64) (FP.ddiv (FP.dmul (4604930618986332160 : UInt64) (FP.i2d rr_1)) (FP.i2d rr_4))))), .second, .val (.int (1 : Int32)), .val (.int (1 : Int32)), .val (.int (1 : Int32)), .val (.int (p4 &&& (1023 : Int32))), .val (.int ((p5 &&& (1048575 : Int32)) + (1 : Int32))), .val (.double (FP.dmul (4608083138725491507 : UInt64) (FP.dadd (4598175219545276416 : UInt64) (FP.ddiv (FP.dmul (4604930618986332160 : UInt64) (FP.i2d ((p4 &&& (1023 : Int32)) * ((p5 &&& (1048575 : Int32)) + (1 : Int32))))) (FP.i2d ((p5 &&& (1048575 : Int32)) + (1 : Int32))))))), .second, .unset, .unset, .unset] [(.double (FP.i2d (((3 : Int32) * (p4 &&& (1023 : Int32))) + (1 : Int32)))), (.double (4608083138725491507 : UInt64))])) rfl (hb hby at_184) _ ?_
    show Steps p.tables e below (T8.setTop (mkF m 187 #[.val (.int p0), .val (.int p1), .val (.int p2), .val (.int p3), .val (.int p4), .val (.int p5), .val (.int (p0 &&& (2147483647 : Int32))), .val (.int (p1 &&& (2147483647 : Int32))), .val (.int rr_1), .val (.int rr_2), .val (.int ((p2 &&& (1073741823 : Int32)) + (1 : Int32))), .val (.int ((p3 &&& (1073741823 : Int32)) + (1 : Int32))), .val (.int rr_3), .val (.int rr_4), .val (.double (FP.dmul (4608083138725491507 : UInt64) (FP.dadd (4598175219545276416 : UInt64) (FP.ddiv (FP.dmul (4604930618986332160 : UInt64) (FP.i2d rr_1)) (FP.i2d rr_3))))), .second, .val (.double (FP.dmul (4608083138725491507 : UInt64) (FP.dadd (4598175219545276416 : UInt64) (FP.ddiv (FP.dmul (4604930618986332160 : UInt64) (FP.i2d rr_2)) (FP.i2d rr_3))))), .second, .val (.double (FP.dmul (4608083138725491507 : UInt64) (FP.dadd (4598175219545276416 : UInt64) (FP.ddiv (FP.dmul (4604930618986332160 : UInt64) (FP.i2d rr_1)) (FP.i2d rr_4))))), .second, .val (.int (1 : Int32)), .val (.int (1 : Int32)), .val (.int (1 : Int32)), .val (.int (p4 &&& (1023 : Int32))), .val (.int ((p5 &&& (1048575 : Int32)) + (1 : Int32))), .val (.double (FP.dmul (4608083138725491507 : UInt64) (FP.dadd (4598175219545276416 : UInt64) (FP.ddiv (FP.dmul (4604930618986332160 : UInt64) (FP.i2d ((p4 &&& (1023 : Int32)) * ((p5 &&& (1048575 : Int32)) + (1 : Int32))))) (FP.i2d ((p5 &&& (1048575 : Int32)) + (1 : Int32))))))), .second, .unset, .unset, .unset] [(.double (4616189618054758400 : UInt64)), (.double (FP.i2d (((3 : Int32) * (p4 &&& (1023 : Int32))) + (1 : Int32)))), (.double (4608083138725491507 : UInt64))])) _
    refine XS.ddivS X8.here hx rfl (hb hby at_187) rfl (own_nn hAn.2.1.ne) (v := (FP.ddiv (FP.i2d (((3 : Int32) * (p4 &&& (1023 : Int32))) + (1 : Int32))) (4616189618054758400 : UInt64))) rfl ?_
    show Steps p.tables e below (T8.setTop (mkF m 188 #[.val (.int p0), .val (.int p1), .val (.int p2), .val (.int p3), .val (.int p4), .val (.int p5), .val (.int (p0 &&& (2147483647 : Int32))), .val (.int (p1 &&& (2147483647 : Int32))), .val (.int rr_1), .val (.int rr_2), .val (.int ((p2 &&& (1073741823 : Int32)) + (1 : Int32))), .val (.int ((p3 &&& (1073741823 : Int32)) + (1 : Int32))), .val (.int rr_3), .val (.int rr_4), .val (.double (FP.dmul (4608083138725491507 : UInt64) (FP.dadd (4598175219545276416 : UInt64) (FP.ddiv (FP.dmul (4604930618986332160 : UInt64) (FP.i2d rr_1)) (FP.i2d rr_3))))), .second, .val (.double (FP.dmul (4608083138725491507 : UInt64) (FP.dadd (4598175219545276416 : UInt64) (FP.ddiv (FP.dmul (4604930618986332160 : UInt64) (FP.i2d rr_2)) (FP.i2d rr_3))))), .second, .val (.double (FP.dmul (4608083138725491507 : UInt64) (FP.dadd (4598175219545276416 : UInt64) (FP.ddiv (FP.dmul (4604930618986332160 : UInt64) (FP.i2d rr_1)) (FP.i2d rr_4))))), .second, .val (.int (1 : Int32)), .val (.int (1 : Int32)), .val (.int (1 : Int32)), .val (.int (p4 &&& (1023 : Int32))), .val (.int ((p5 &&& (1048575 : Int32)) + (1 : Int32))), .val (.double (FP.dmul (4608083138725491507 : UInt64) (FP.dadd (4598175219545276416 : UInt64) (FP.ddiv (FP.dmul (4604930618986332160 : UInt64) (FP.i2d ((p4 &&& (1023 : Int32)) * ((p5 &&& (1048575 : Int32)) + (1 : Int32))))) (FP.i2d ((p5 &&& (1048575 : Int32)) + (1 : Int32))))))), .second, .unset, .unset, .unset] [(.double (FP.ddiv (FP.i2d (((3 : Int32) * (p4 &&& (1023 : Int32))) + (1 : Int32))) (4616189618054758400 : UInt64))), (.double (4608083138725491507 : UInt64))])) _
    refine XS.dmulS X8.here hx rfl (hb hby at_188) rfl (own_nn hAn.2.2.ne) (v := (FP.dmul (4608083138725491507 : UInt64) (FP.ddiv (FP.i2d (((3 : Int32) * (p4 &&& (1023 : Int32))) + (1 : Int32))) (4616189618054758400 : UInt64)))) rfl ?_
    show Steps p.tables e below (T8.setTop (mkF m 189 #[.val (.int p0), .val (.int p1), .val (.int p2), .val (.int p3), .val (.int p4), .val (.int p5), .val (.int (p0 &&& (2147483647 : Int32))), .val (.int (p1 &&& (2147483647 : Int32))), .val (.int rr_1), .val (.int rr_2), .val (.int ((p2 &&& (1073741823 : Int32)) + (1 : Int32))), .val (.int ((p3 &&& (1073741823 : Int32)) + (1 : Int32))), .val (.int rr_3), .val (.int rr_4), .val (.double (FP.dmul (4608083138725491507 : UInt64) (FP.dadd (4598175219545276416 : UInt64) (FP.ddiv (FP.dmul (4604930618986332160 : UInt64) (FP.i2d rr_1)) (FP.i2d rr_3))))), .second, .val (.double (FP.dmul (4608083138725491507 : UInt64) (FP.dadd (4598175219545276416 : UInt64) (FP.ddiv (FP.dmul (4604930618986332160 : UInt64) (FP.i2d rr_2)) (FP.i2d rr_3))))), .second, .val (.double (FP.dmul (4608083138725491507 : UInt64) (FP.dadd (4598175219545276416 : UInt64) (FP.ddiv (FP.dmul (4604930618986332160 : UInt64) (FP.i2d rr_1)) (FP.i2d rr_4))))), .second, .val (.int (1 : Int32)), .val (.int (1 : Int32)), .val (.int (1 : Int32)), .val (.int (p4 &&& (1023 : Int32))), .val (.int ((p5 &&& (1048575 : Int32)) + (1 : Int32))), .val (.double (FP.dmul (4608083138725491507 : UInt64) (FP.dadd (4598175219545276416 : UInt64) (FP.ddiv (FP.dmul (4604930618986332160 : UInt64) (FP.i2d ((p4 &&& (1023 : Int32)) * ((p5 &&& (1048575 : Int32)) + (1 : Int32))))) (FP.i2d ((p5 &&& (1048575 : Int32)) + (1 : Int32))))))), .second, .unset, .unset, .unset] [(.double (FP.dmul (4608083138725491507 : UInt64) (FP.ddiv (FP.i2d (((3 : Int32) * (p4 &&& (1023 : Int32))) + (1 : Int32))) (4616189618054758400 : UInt64))))])) _
    refine XS.dstore X8.here hx rfl (hb hby at_189) rfl (l' := #[.val (.int p0), .val (.int p1), .val (.int p2), .val (.int p3), .val (.int p4), .val (.int p5), .val (.int (p0 &&& (2147483647 : Int32))), .val (.int (p1 &&& (2147483647 : Int32))), .val (.int rr_1), .val (.int rr_2), .val (.int ((p2 &&& (1073741823 : Int32)) + (1 : Int32))), .val (.int ((p3 &&& (1073741823 : Int32)) + (1 : Int32))), .val (.int rr_3), .val (.int rr_4), .val (.double (FP.dmul (4608083138725491507 : UInt64) (FP.dadd (4598175219545276416 : UInt64) (FP.ddiv (FP.dmul (4604930618986332160 : UInt64) (FP.i2d rr_1)) (FP.i2d rr_3))))), .second, .val (.double (FP.dmul (4608083138725491507 : UInt64) (FP.dadd (4598175219545276416 : UInt64) (FP.ddiv (FP.dmul (4604930618986332160 : UInt64) (FP.i2d rr_2)) (FP.i2d rr_3))))), .second, .val (.double (FP.dmul (4608083138725491507 : UInt64) (FP.dadd (4598175219545276416 : UInt64) (FP.ddiv (FP.dmul (4604930618986332160 : UInt64) (FP.i2d rr_1)) (FP.i2d rr_4))))), .second, .val (.int (1 : Int32)), .val (.int (1 : Int32)), .val (.int (1 : Int32)), .val (.int (p4 &&& (1023 : Int32))), .val (.int ((p5 &&& (1048575 : Int32)) + (1 : Int32))), .val (.double (FP.dmul (4608083138725491507 : UInt64) (FP.dadd (4598175219545276416 : UInt64) (FP.ddiv (FP.dmul (4604930618986332160 : UInt64) (FP.i2d ((p4 &&& (1023 : Int32)) * ((p5 &&& (1048575 : Int32)) + (1 : Int32))))) (FP.i2d ((p5 &&& (1048575 : Int32)) + (1 : Int32))))))), .second, .val (.double (FP.dmul (4608083138725491507 : UInt64) (FP.ddiv (FP.i2d (((3 : Int32) * (p4 &&& (1023 : Int32))) + (1 : Int32))) (4616189618054758400 : UInt64)))), .second, .unset]) rfl ?_
    show Steps p.tables e below (T8.setTop (mkF m 191 #[.val (.int p0), .val (.int p1), .val (.int p2), .val (.int p3), .val (.int p4), .val (.int p5), .val (.int (p0 &&& (2147483647 : Int32))), .val (.int (p1 &&& (2147483647 : Int32))), .val (.int rr_1), .val (.int rr_2), .val (.int ((p2 &&& (1073741823 : Int32)) + (1 : Int32))), .val (.int ((p3 &&& (1073741823 : Int32)) + (1 : Int32))), .val (.int rr_3), .val (.int rr_4), .val (.double (FP.dmul (4608083138725491507 : UInt64) (FP.dadd (4598175219545276416 : UInt64) (FP.ddiv (FP.dmul (4604930618986332160 : UInt64) (FP.i2d rr_1)) (FP.i2d rr_3))))), .second, .val (.double (FP.dmul (4608083138725491507 : UInt64) (FP.dadd (4598175219545276416 : UInt64) (FP.ddiv (FP.dmul (4604930618986332160 : UInt64) (FP.i2d rr_2)) (FP.i2d rr_3))))), .second, .val (.double (FP.dmul (4608083138725491507 : UInt64) (FP.dadd (4598175219545276416 : UInt64) (FP.ddiv (FP.dmul (4604930618986332160 : UInt64) (FP.i2d rr_1)) (FP.i2d rr_4))))), .second, .val (.int (1 : Int32)), .val (.int (1 : Int32)), .val (.int (1 : Int32)), .val (.int (p4 &&& (1023 : Int32))), .val (.int ((p5 &&& (1048575 : Int32)) + (1 : Int32))), .val (.double (FP.dmul (4608083138725491507 : UInt64) (FP.dadd (4598175219545276416 : UInt64) (FP.ddiv (FP.dmul (4604930618986332160 : UInt64) (FP.i2d ((p4 &&& (1023 : Int32)) * ((p5 &&& (1048575 : Int32)) + (1 : Int32))))) (FP.i2d ((p5 &&& (1048575 : Int32)) + (1 : Int32))))))), .second, .val (.double (FP.dmul (4608083138725491507 : UInt64) (FP.ddiv (FP.i2d (((3 : Int32) * (p4 &&& (1023 : Int32))) + (1 : Int32))) (4616189618054758400 : UInt64)))), .second, .unset] [])) _
    refine XS.dload X8.here hx rfl (hb hby at_191) rfl ?_
    show Steps p.tables e below (T8.setTop (mkF m 193 #[.val (.int p0), .val (.int p1), .val (.int p2), .val (.int p3), .val (.int p4), .val (.int p5), .val (.int (p0 &&& (2147483647 : Int32))), .val (.int (p1 &&& (2147483647 : Int32))), .val (.int rr_1), .val (.int rr_2), .val (.int ((p2 &&& (1073741823 : Int32)) + (1 : Int32))), .val (.int ((p3 &&& (1073741823 : Int32)) + (1 : Int32))), .val (.int rr_3), .val (.int rr_4), .val (.double (FP.dmul (4608083138725491507 : UInt64) (FP.dadd (4598175219545276416 : UInt64) (FP.ddiv (FP.dmul (4604930618986332160 : UInt64) (FP.i2d rr_1)) (FP.i2d rr_3))))), .second, .val (.double (FP.dmul (4608083138725491507 : UInt64) (FP.dadd (4598175219545276416 : UInt64) (FP.ddiv (FP.dmul (4604930618986332160 : UInt64) (FP.i2d rr_2)) (FP.i2d rr_3))))), .second, .val (.double (FP.dmul (4608083138725491507 : UInt64) (FP.dadd (4598175219545276416 : UInt64) (FP.ddiv (FP.dmul (4604930618986332160 : UInt64) (FP.i2d rr_1)) (FP.i2d rr_4))))), .second, .val (.int (1 : Int32)), .val (.int (1 : Int32)), .val (.int (1 : Int32)), .val (.int (p4 &&& (1023 : Int32))), .val (.int ((p5 &&& (1048575 : Int32)) + (1 : Int32))), .val (.double (FP.dmul (4608083138725491507 : UInt64) (FP.dadd (4598175219545276416 : UInt64) (FP.ddiv (FP.dmul (4604930618986332160 : UInt64) (FP.i2d ((p4 &&& (1023 : Int32)) * ((p5 &&& (1048575 : Int32)) + (1 : Int32))))) (FP.i2d ((p5 &&& (1048575 : Int32)) + (1 : Int32))))))), .second, .val (.double (FP.dmul (4608083138725491507 : UInt64) (FP.ddiv (FP.i2d (((3 : Int32) * (p4 &&& (1023 : Int32))) + (1 : Int32))) (4616189618054758400 : UInt64)))), .second, .unset] [(.double (FP.dmul (4608083138725491507 : UInt64) (FP.dadd (4598175219545276416 : UInt64) (FP.ddiv (FP.dmul (4604930618986332160 : UInt64) (FP.i2d ((p4 &&& (1023 : Int32)) * ((p5 &&& (1048575 : Int32)) + (1 : Int32))))) (FP.i2d ((p5 &&& (1048575 : Int32)) + (1 : Int32)))))))])) _
    refine XS.dload X8.here hx rfl (hb hby at_193) rfl ?_
    show Steps p.tables e below (T8.setTop (mkF m 195 #[.val (.int p0), .val (.int p1), .val (.int p2), .val (.int p3), .val (.int p4), .val (.int p5), .val (.int (p0 &&& (2147483647 : Int32))), .val (.int (p1 &&& (2147483647 : Int32))), .val (.int rr_1), .val (.int rr_2), .val (.int ((p2 &&& (1073741823 : Int32)) + (1 : Int32))), .val (.int ((p3 &&& (1073741823 : Int32)) + (1 : Int32))), .val (.int rr_3), .val (.int rr_4), .val (.double (FP.dmul (4608083138725491507 : UInt64) (FP.dadd (4598175219545276416 : UInt64) (FP.ddiv (FP.dmul (4604930618986332160 : UInt64) (FP.i2d rr_1)) (FP.i2d rr_3))))), .second, .val (.double (FP.dmul (4608083138725491507 : UInt64) (FP.dadd (4598175219545276416 : UInt64) (FP.ddiv (FP.dmul (4604930618986332160 : UInt64) (FP.i2d rr_2)) (FP.i2d rr_3))))), .second, .val (.double (FP.dmul (4608083138725491507 : UInt64) (FP.dadd (4598175219545276416 : UInt64) (FP.ddiv (FP.dmul (4604930618986332160 : UInt64) (FP.i2d rr_1)) (FP.i2d rr_4))))), .second, .val (.int (1 : Int32)), .val (.int (1 : Int32)), .val (.int (1 : Int32)), .val (.int (p4 &&& (1023 : Int32))), .val (.int ((p5 &&& (1048575 : Int32)) + (1 : Int32))), .val (.double (FP.dmul (4608083138725491507 : UInt64) (FP.dadd (4598175219545276416 : UInt64) (FP.ddiv (FP.dmul (4604930618986332160 : UInt64) (FP.i2d ((p4 &&& (1023 : Int32)) * ((p5 &&& (1048575 : Int32)) + (1 : Int32))))) (FP.i2d ((p5 &&& (1048575 : Int32)) + (1 : Int32))))))), .second, .val (.double (FP.dmul (4608083138725491507 : UInt64) (FP.ddiv (FP.i2d (((3 : Int32) * (p4 &&& (1023 : Int32))) + (1 : Int32))) (4616189618054758400 : UInt64)))), .second, .unset] [(.double (FP.dmul (4608083138725491507 : UInt64) (FP.ddiv (FP.i2d (((3 : Int32) * (p4 &&& (1023 : Int32))) + (1 : Int32))) (4616189618054758400 : UInt64)))), (.double (FP.dmul (4608083138725491507 : UInt64) (FP.dadd (4598175219545276416 : UInt64) (FP.ddiv (FP.dmul (4604930618986332160 : UInt64) (FP.i2d ((p4 &&& (1023 : Int32)) * ((p5 &&& (1048575 : Int32)) + (1 : Int32))))) (FP.i2d ((p5 &&& (1048575 : Int32)) + (1 : Int32)))))))])) _
    refine XS.dcmpS X8.here hx rfl (hb hby at_195) rfl (v := (cmpValue (FP.dcmp (FP.dmul (4608083138725491507 : UInt64) (FP.dadd (4598175219545276416 : UInt64) (FP.ddiv (FP.dmul (4604930618986332160 : UInt64) (FP.i2d ((p4 &&& (1023 : Int32)) * ((p5 &&& (1048575 : Int32)) + (1 : Int32))))) (FP.i2d ((p5 &&& (1048575 : Int32)) + (1 : Int32)))))) (FP.dmul (4608083138725491507 : UInt64) (FP.ddiv (FP.i2d (((3 : Int32) * (p4 &&& (1023 : Int32))) + (1 : Int32))) (4616189618054758400 : UInt64)))) .l)) rfl ?_
    show Steps p.tables e below (T8.setTop (mkF m 196 #[.val (.int p0), .val (.int p1), .val (.int p2), .val (.int p3), .val (.int p4), .val (.int p5), .val (.int (p0 &&& (2147483647 : Int32))), .val (.int (p1 &&& (2147483647 : Int32))), .val (.int rr_1), .val (.int rr_2), .val (.int ((p2 &&& (1073741823 : Int32)) + (1 : Int32))), .val (.int ((p3 &&& (1073741823 : Int32)) + (1 : Int32))), .val (.int rr_3), .val (.int rr_4), .val (.double (FP.dmul (4608083138725491507 : UInt64) (FP.dadd (4598175219545276416 : UInt64) (FP.ddiv (FP.dmul (4604930618986332160 : UInt64) (FP.i2d rr_1)) (FP.i2d rr_3))))), .second, .val (.double (FP.dmul (4608083138725491507 : UInt64) (FP.dadd (4598175219545276416 : UInt64) (FP.ddiv (FP.dmul (4604930618986332160 : UInt64) (FP.i2d rr_2)) (FP.i2d rr_3))))), .second, .val (.double (FP.dmul (4608083138725491507 : UInt64) (FP.dadd (4598175219545276416 : UInt64) (FP.ddiv (FP.dmul (4604930618986332160 : UInt64) (FP.i2d rr_1)) (FP.i2d rr_4))))), .second, .val (.int (1 : Int32)), .val (.int (1 : Int32)), .val (.int (1 : Int32)), .val (.int (p4 &&& (1023 : Int32))), .val (.int ((p5 &&& (1048575 : Int32)) + (1 : Int32))), .val (.double (FP.dmul (4608083138725491507 : UInt64) (FP.dadd (4598175219545276416 : UInt64) (FP.ddiv (FP.dmul (4604930618986332160 : UInt64) (FP.i2d ((p4 &&& (1023 : Int32)) * ((p5 &&& (1048575 : Int32)) + (1 : Int32))))) (FP.i2d ((p5 &&& (1048575 : Int32)) + (1 : Int32))))))), .second, .val (.double (FP.dmul (4608083138725491507 : UInt64) (FP.ddiv (FP.i2d (((3 : Int32) * (p4 &&& (1023 : Int32))) + (1 : Int32))) (4616189618054758400 : UInt64)))), .second, .unset] [(.int (cmpValue (FP.dcmp (FP.dmul (4608083138725491507 : UInt64) (FP.dadd (4598175219545276416 : UInt64) (FP.ddiv (FP.dmul (4604930618986332160 : UInt64) (FP.i2d ((p4 &&& (1023 : Int32)) * ((p5 &&& (1048575 : Int32)) + (1 : Int32))))) (FP.i2d ((p5 &&& (1048575 : Int32)) + (1 : Int32)))))) (FP.dmul (4608083138725491507 : UInt64) (FP.ddiv (FP.i2d (((3 : Int32) * (p4 &&& (1023 : Int32))) + (1 : Int32))) (4616189618054758400 : UInt64)))) .l))])) _
    refine XS.ifNo X8.here hx rfl (hb hby at_196) rfl ((if0 _ _).trans (teq (own_ceq (own_fF _ _ (own_na hN hB) hB.1).1.ne hAn.2.2.ne hAn.1 .l)).2) ?_
    show Steps p.tables e below (T8.setTop (mkF m 199 #[.val (.int p0), .val (.int p1), .val (.int p2), .val (.int p3), .val (.int p4), .val (.int p5), .val (.int (p0 &&& (2147483647 : Int32))), .val (.int (p1 &&& (2147483647 : Int32))), .val (.int rr_1), .val (.int rr_2), .val (.int ((p2 &&& (1073741823 : Int32)) + (1 : Int32))), .val (.int ((p3 &&& (1073741823 : Int32)) + (1 : Int32))), .val (.int rr_3), .val (.int rr_4), .val (.double (FP.dmul (4608083138725491507 : UInt64) (FP.dadd (4598175219545276416 : UInt64) (FP.ddiv (FP.dmul (4604930618986332160 : UInt64) (FP.i2d rr_1)) (FP.i2d rr_3))))), .second, .val (.double (FP.dmul (4608083138725491507 : UInt64) (FP.dadd (4598175219545276416 : UInt64) (FP.ddiv (FP.dmul (4604930618986332160 : UInt64) (FP.i2d rr_2)) (FP.i2d rr_3))))), .second, .val (.double (FP.dmul (4608083138725491507 : UInt64) (FP.dadd (4598175219545276416 : UInt64) (FP.ddiv (FP.dmul (4604930618986332160 : UInt64) (FP.i2d rr_1)) (FP.i2d rr_4))))), .second, .val (.int (1 : Int32)), .val (.int (1 : Int32)), .val (.int (1 : Int32)), .val (.int (p4 &&& (1023 : Int32))), .val (.int ((p5 &&& (1048575 : Int32)) + (1 : Int32))), .val (.double (FP.dmul (4608083138725491507 : UInt64) (FP.dadd (4598175219545276416 : UInt64) (FP.ddiv (FP.dmul (4604930618986332160 : UInt64) (FP.i2d ((p4 &&& (1023 : Int32)) * ((p5 &&& (1048575 : Int32)) + (1 : Int32))))) (FP.i2d ((p5 &&& (1048575 : Int32)) + (1 : Int32))))))), .second, .val (.double (FP.dmul (4608083138725491507 : UInt64) (FP.ddiv (FP.i2d (((3 : Int32) * (p4 &&& (1023 : Int32))) + (1 : Int32))) (4616189618054758400 : UInt64)))), .second, .unset] [])) _
    refine XS.iconst X8.here hx rfl (hb hby at_199) ?_
    show Steps p.tables e below (T8.setTop (mkF m 200 #[.val (.int p0), .val (.int p1), .val (.int p2), .val (.int p3), .val (.int p4), .val (.int p5), .val (.int (p0 &&& (2147483647 : Int32))), .val (.int (p1 &&& (2147483647 : Int32))), .val (.int rr_1), .val (.int rr_2), .val (.int ((p2 &&& (1073741823 : Int32)) + (1 : Int32))), .val (.int ((p3 &&& (1073741823 : Int32)) + (1 : Int32))), .val (.int rr_3), .val (.int rr_4), .val (.double (FP.dmul (4608083138725491507 : UInt64) (FP.dadd (4598175219545276416 : UInt64) (FP.ddiv (FP.dmul (4604930618986332160 : UInt64) (FP.i2d rr_1)) (FP.i2d rr_3))))), .second, .val (.double (FP.dmul (4608083138725491507 : UInt64) (FP.dadd (4598175219545276416 : UInt64) (FP.ddiv (FP.dmul (4604930618986332160 : UInt64) (FP.i2d rr_2)) (FP.i2d rr_3))))), .second, .val (.double (FP.dmul (4608083138725491507 : UInt64) (FP.dadd (4598175219545276416 : UInt64) (FP.ddiv (FP.dmul (4604930618986332160 : UInt64) (FP.i2d rr_1)) (FP.i2d rr_4))))), .second, .val (.int (1 : Int32)), .val (.int (1 : Int32)), .val (.int (1 : Int32)), .val (.int (p4 &&& (1023 : Int32))), .val (.int ((p5 &&& (1048575 : Int32)) + (1 : Int32))), .val (.double (FP.dmul (4608083138725491507 : UInt64) (FP.dadd (4598175219545276416 : UInt64) (FP.ddiv (FP.dmul (4604930618986332160 : UInt64) (FP.i2d ((p4 &&& (1023 : Int32)) * ((p5 &&& (1048575 : Int32)) + (1 : Int32))))) (FP.i2d ((p5 &&& (1048575 : Int32)) + (1 : Int32))))))), .second, .val (.double (FP.dmul (4608083138725491507 : UInt64) (FP.ddiv (FP.i2d (((3 : Int32) * (p4 &&& (1023 : Int32))) + (1 : Int32))) (4616189618054758400 : UInt64)))), .second, .unset] [(.int (1 : Int32))])) _
    refine XS.goto X8.here hx rfl (pc0 := 200) (pc' := 204) rfl (hb hby at_200) (by decide) (by decide) ?_
    show Steps p.tables e below (T8.setTop (mkF m 204 #[.val (.int p0), .val (.int p1), .val (.int p2), .val (.int p3), .val (.int p4), .val (.int p5), .val (.int (p0 &&& (2147483647 : Int32))), .val (.int (p1 &&& (2147483647 : Int32))), .val (.int rr_1), .val (.int rr_2), .val (.int ((p2 &&& (1073741823 : Int32)) + (1 : Int32))), .val (.int ((p3 &&& (1073741823 : Int32)) + (1 : Int32))), .val (.int rr_3), .val (.int rr_4), .val (.double (FP.dmul (4608083138725491507 : UInt64) (FP.dadd (4598175219545276416 : UInt64) (FP.ddiv (FP.dmul (4604930618986332160 : UInt64) (FP.i2d rr_1)) (FP.i2d rr_3))))), .second, .val (.double (FP.dmul (4608083138725491507 : UInt64) (FP.dadd (4598175219545276416 : UInt64) (FP.ddiv (FP.dmul (4604930618986332160 : UInt64) (FP.i2d rr_2)) (FP.i2d rr_3))))), .second, .val (.double (FP.dmul (4608083138725491507 : UInt64) (FP.dadd (4598175219545276416 : UInt64) (FP.ddiv (FP.dmul (4604930618986332160 : UInt64) (FP.i2d rr_1)) (FP.i2d rr_4))))), .second, .val (.int (1 : Int32)), .val (.int (1 : Int32)), .val (.int (1 : Int32)), .val (.int (p4 &&& (1023 : Int32))), .val (.int ((p5 &&& (1048575 : Int32)) + (1 : Int32))), .val (.double (FP.dmul (4608083138725491507 : UInt64) (FP.dadd (4598175219545276416 : UInt64) (FP.ddiv (FP.dmul (4604930618986332160 : UInt64) (FP.i2d ((p4 &&& (1023 : Int32)) * ((p5 &&& (1048575 : Int32)) + (1 : Int32))))) (FP.i2d ((p5 &&& (1048575 : Int32)) + (1 : Int32))))))), .second, .val (.double (FP.dmul (4608083138725491507 : UInt64) (FP.ddiv (FP.i2d (((3 : Int32) * (p4 &&& (1023 : Int32))) + (1 : Int32))) (4616189618054758400 : UInt64)))), .second, .unset] [(.int (1 : Int32))])) _
    refine XS.istore X8.here hx rfl (hb hby at_204) rfl (l' := #[.val (.int p0), .val (.int p1), .val (.int p2), .val (.int p3), .val (.int p4), .val (.int p5), .val (.int (p0 &&& (2147483647 : Int32))), .val (.int (p1 &&& (2147483647 : Int32))), .val (.int rr_1), .val (.int rr_2), .val (.int ((p2 &&& (1073741823 : Int32)) + (1 : Int32))), .val (.int ((p3 &&& (1073741823 : Int32)) + (1 : Int32))), .val (.int rr_3), .val (.int rr_4), .val (.double (FP.dmul (4608083138725491507 : UInt64) (FP.dadd (4598175219545276416 : UInt64) (FP.ddiv (FP.dmul (4604930618986332160 : UInt64) (FP.i2d rr_1)) (FP.i2d rr_3))))), .second, .val (.double (FP.dmul (4608083138725491507 : UInt64) (FP.dadd (4598175219545276416 : UInt64) (FP.ddiv (FP.dmul (4604930618986332160 : UInt64) (FP.i2d rr_2)) (FP.i2d rr_3))))), .second, .val (.double (FP.dmul (4608083138725491507 : UInt64) (FP.dadd (4598175219545276416 : UInt64) (FP.ddiv (FP.dmul (4604930618986332160 : UInt64) (FP.i2d rr_1)) (FP.i2d rr_4))))), .second, .val (.int (1 : Int32)), .val (.int (1 : Int32)), .val (.int (1 : Int32)), .val (.int (p4 &&& (1023 : Int32))), .val (.int ((p5 &&& (1048575 : Int32)) + (1 : Int32))), .val (.double (FP.dmul (4608083138725491507 : UInt64) (FP.dadd (4598175219545276416 : UInt64) (FP.ddiv (FP.dmul (4604930618986332160 : UInt64) (FP.i2d ((p4 &&& (1023 : Int32)) * ((p5 &&& (1048575 : Int32)) + (1 : Int32))))) (FP.i2d ((p5 &&& (1048575 : Int32)) + (1 : Int32))))))), .second, .val (.double (FP.dmul (4608083138725491507 : UInt64) (FP.ddiv (FP.i2d (((3 : Int32) * (p4 &&& (1023 : Int32))) + (1 : Int32))) (4616189618054758400 : UInt64)))), .second, .val (.int (1 : Int32))]) rfl ?_
    show Steps p.tables e below (T8.setTop (mkF m 206 #[.val (.int p0), .val (.int p1), .val (.int p2), .val (.int p3), .val (.int p4), .val (.int p5), .val (.int (p0 &&& (2147483647 : Int32))), .val (.int (p1 &&& (2147483647 : Int32))), .val (.int rr_1), .val (.int rr_2), .val (.int ((p2 &&& (1073741823 : Int32)) + (1 : Int32))), .val (.int ((p3 &&& (1073741823 : Int32)) + (1 : Int32))), .val (.int rr_3), .val (.int rr_4), .val (.double (FP.dmul (4608083138725491507 : UInt64) (FP.dadd (4598175219545276416 : UInt64) (FP.ddiv (FP.dmul (4604930618986332160 : UInt64) (FP.i2d rr_1)) (FP.i2d rr_3))))), .second, .val (.double (FP.dmul (4608083138725491507 : UInt64) (FP.dadd (4598175219545276416 : UInt64) (FP.ddiv (FP.dmul (4604930618986332160 : UInt64) (FP.i2d rr_2)) (FP.i2d rr_3))))), .second, .val (.double (FP.dmul (4608083138725491507 : UInt64) (FP.dadd (4598175219545276416 : UInt64) (FP.ddiv (FP.dmul (4604930618986332160 : UInt64) (FP.i2d rr_1)) (FP.i2d rr_4))))), .second, .val (.int (1 : Int32)), .val (.int (1 : Int32)), .val (.int (1 : Int32)), .val (.int (p4 &&& (1023 : Int32))), .val (.int ((p5 &&& (1048575 : Int32)) + (1 : Int32))), .val (.double (FP.dmul (4608083138725491507 : UInt64) (FP.dadd (4598175219545276416 : UInt64) (FP.ddiv (FP.dmul (4604930618986332160 : UInt64) (FP.i2d ((p4 &&& (1023 : Int32)) * ((p5 &&& (1048575 : Int32)) + (1 : Int32))))) (FP.i2d ((p5 &&& (1048575 : Int32)) + (1 : Int32))))))), .second, .val (.double (FP.dmul (4608083138725491507 : UInt64) (FP.ddiv (FP.i2d (((3 : Int32) * (p4 &&& (1023 : Int32))) + (1 : Int32))) (4616189618054758400 : UInt64)))), .second, .val (.int (1 : Int32))] [])) _
    refine XS.iload X8.here hx rfl (hb hby at_206) rfl ?_
    show Steps p.tables e below (T8.setTop (mkF m 208 #[.val (.int p0), .val (.int p1), .val (.int p2), .val (.int p3), .val (.int p4), .val (.int p5), .val (.int (p0 &&& (2147483647 : Int32))), .val (.int (p1 &&& (2147483647 : Int32))), .val (.int rr_1), .val (.int rr_2), .val (.int ((p2 &&& (1073741823 : Int32)) + (1 : Int32))), .val (.int ((p3 &&& (1073741823 : Int32)) + (1 : Int32))), .val (.int rr_3), .val (.int rr_4), .val (.double (FP.dmul (4608083138725491507 : UInt64) (FP.dadd (4598175219545276416 : UInt64) (FP.ddiv (FP.dmul (4604930618986332160 : UInt64) (FP.i2d rr_1)) (FP.i2d rr_3))))), .second, .val (.double (FP.dmul (4608083138725491507 : UInt64) (FP.dadd (4598175219545276416 : UInt64) (FP.ddiv (FP.dmul (4604930618986332160 : UInt64) (FP.i2d rr_2)) (FP.i2d rr_3))))), .second, .val (.double (FP.dmul (4608083138725491507 : UInt64) (FP.dadd (4598175219545276416 : UInt64) (FP.ddiv (FP.dmul (4604930618986332160 : UInt64) (FP.i2d rr_1)) (FP.i2d rr_4))))), .second, .val (.int (1 : Int32)), .val (.int (1 : Int32)), .val (.int (1 : Int32)), .val (.int (p4 &&& (1023 : Int32))), .val (.int ((p5 &&& (1048575 : Int32)) + (1 : Int32))), .val (.double (FP.dmul (4608083138725491507 : UInt64) (FP.dadd (4598175219545276416 : UInt64) (FP.ddiv (FP.dmul (4604930618986332160 : UInt64) (FP.i2d ((p4 &&& (1023 : Int32)) * ((p5 &&& (1048575 : Int32)) + (1 : Int32))))) (FP.i2d ((p5 &&& (1048575 : Int32)) + (1 : Int32))))))), .second, .val (.double (FP.dmul (4608083138725491507 : UInt64) (FP.ddiv (FP.i2d (((3 : Int32) * (p4 &&& (1023 : Int32))) + (1 : Int32))) (4616189618054758400 : UInt64)))), .second, .val (.int (1 : Int32))] [(.int (1 : Int32))])) _
    refine XS.ifNo X8.here hx rfl (hb hby at_208) rfl (by decide) ?_
    show Steps p.tables e below (T8.setTop (mkF m 211 #[.val (.int p0), .val (.int p1), .val (.int p2), .val (.int p3), .val (.int p4), .val (.int p5), .val (.int (p0 &&& (2147483647 : Int32))), .val (.int (p1 &&& (2147483647 : Int32))), .val (.int rr_1), .val (.int rr_2), .val (.int ((p2 &&& (1073741823 : Int32)) + (1 : Int32))), .val (.int ((p3 &&& (1073741823 : Int32)) + (1 : Int32))), .val (.int rr_3), .val (.int rr_4), .val (.double (FP.dmul (4608083138725491507 : UInt64) (FP.dadd (4598175219545276416 : UInt64) (FP.ddiv (FP.dmul (4604930618986332160 : UInt64) (FP.i2d rr_1)) (FP.i2d rr_3))))), .second, .val (.double (FP.dmul (4608083138725491507 : UInt64) (FP.dadd (4598175219545276416 : UInt64) (FP.ddiv (FP.dmul (4604930618986332160 : UInt64) (FP.i2d rr_2)) (FP.i2d rr_3))))), .second, .val (.double (FP.dmul (4608083138725491507 : UInt64) (FP.dadd (4598175219545276416 : UInt64) (FP.ddiv (FP.dmul (4604930618986332160 : UInt64) (FP.i2d rr_1)) (FP.i2d rr_4))))), .second, .val (.int (1 : Int32)), .val (.int (1 : Int32)), .val (.int (1 : Int32)), .val (.int (p4 &&& (1023 : Int32))), .val (.int ((p5 &&& (1048575 : Int32)) + (1 : Int32))), .val (.double (FP.dmul (4608083138725491507 : UInt64) (FP.dadd (4598175219545276416 : UInt64) (FP.ddiv (FP.dmul (4604930618986332160 : UInt64) (FP.i2d ((p4 &&& (1023 : Int32)) * ((p5 &&& (1048575 : Int32)) + (1 : Int32))))) (FP.i2d ((p5 &&& (1048575 : Int32)) + (1 : Int32))))))), .second, .val (.double (FP.dmul (4608083138725491507 : UInt64) (FP.ddiv (FP.i2d (((3 : Int32) * (p4 &&& (1023 : Int32))) + (1 : Int32))) (4616189618054758400 : UInt64)))), .second, .val (.int (1 : Int32))] [])) _
    refine XS.iload X8.here hx rfl (hb hby at_211) rfl ?_
    show Steps p.tables e below (T8.setTop (mkF m 213 #[.val (.int p0), .val (.int p1), .val (.int p2), .val (.int p3), .val (.int p4), .val (.int p5), .val (.int (p0 &&& (2147483647 : Int32))), .val (.int (p1 &&& (2147483647 : Int32))), .val (.int rr_1), .val (.int rr_2), .val (.int ((p2 &&& (1073741823 : Int32)) + (1 : Int32))), .val (.int ((p3 &&& (1073741823 : Int32)) + (1 : Int32))), .val (.int rr_3), .val (.int rr_4), .val (.double (FP.dmul (4608083138725491507 : UInt64) (FP.dadd (4598175219545276416 : UInt64) (FP.ddiv (FP.dmul (4604930618986332160 : UInt64) (FP.i2d rr_1)) (FP.i2d rr_3))))), .second, .val (.double (FP.dmul (4608083138725491507 : UInt64) (FP.dadd (4598175219545276416 : UInt64) (FP.ddiv (FP.dmul (4604930618986332160 : UInt64) (FP.i2d rr_2)) (FP.i2d rr_3))))), .second, .val (.double (FP.dmul (4608083138725491507 : UInt64) (FP.dadd (4598175219545276416 : UInt64) (FP.ddiv (FP.dmul (4604930618986332160 : UInt64) (FP.i2d rr_1)) (FP.i2d rr_4))))), .second, .val (.int (1 : Int32)), .val (.int (1 : Int32)), .val (.int (1 : Int32)), .val (.int (p4 &&& (1023 : Int32))), .val (.int ((p5 &&& (1048575 : Int32)) + (1 : Int32))), .val (.double (FP.dmul (4608083138725491507 : UInt64) (FP.dadd (4598175219545276416 : UInt64) (FP.ddiv (FP.dmul (4604930618986332160 : UInt64) (FP.i2d ((p4 &&& (1023 : Int32)) * ((p5 &&& (1048575 : Int32)) + (1 : Int32))))) (FP.i2d ((p5 &&& (1048575 : Int32)) + (1 : Int32))))))), .second, .val (.double (FP.dmul (4608083138725491507 : UInt64) (FP.ddiv (FP.i2d (((3 : Int32) * (p4 &&& (1023 : Int32))) + (1 : Int32))) (4616189618054758400 : UInt64)))), .second, .val (.int (1 : Int32))] [(.int (1 : Int32))])) _
    refine XS.ifNo X8.here hx rfl (hb hby at_213) rfl (by decide) ?_
    show Steps p.tables e below (T8.setTop (mkF m 216 #[.val (.int p0), .val (.int p1), .val (.int p2), .val (.int p3), .val (.int p4), .val (.int p5), .val (.int (p0 &&& (2147483647 : Int32))), .val (.int (p1 &&& (2147483647 : Int32))), .val (.int rr_1), .val (.int rr_2), .val (.int ((p2 &&& (1073741823 : Int32)) + (1 : Int32))), .val (.int ((p3 &&& (1073741823 : Int32)) + (1 : Int32))), .val (.int rr_3), .val (.int rr_4), .val (.double (FP.dmul (4608083138725491507 : UInt64) (FP.dadd (4598175219545276416 : UInt64) (FP.ddiv (FP.dmul (4604930618986332160 : UInt64) (FP.i2d rr_1)) (FP.i2d rr_3))))), .second, .val (.double (FP.dmul (4608083138725491507 : UInt64) (FP.dadd (4598175219545276416 : UInt64) (FP.ddiv (FP.dmul (4604930618986332160 : UInt64) (FP.i2d rr_2)) (FP.i2d rr_3))))), .second, .val (.double (FP.dmul (4608083138725491507 : UInt64) (FP.dadd (4598175219545276416 : UInt64) (FP.ddiv (FP.dmul (4604930618986332160 : UInt64) (FP.i2d rr_1)) (FP.i2d rr_4))))), .second, .val (.int (1 : Int32)), .val (.int (1 : Int32)), .val (.int (1 : Int32)), .val (.int (p4 &&& (1023 : Int32))), .val (.int ((p5 &&& (1048575 : Int32)) + (1 : Int32))), .val (.double (FP.dmul (4608083138725491507 : UInt64) (FP.dadd (4598175219545276416 : UInt64) (FP.ddiv (FP.dmul (4604930618986332160 : UInt64) (FP.i2d ((p4 &&& (1023 : Int32)) * ((p5 &&& (1048575 : Int32)) + (1 : Int32))))) (FP.i2d ((p5 &&& (1048575 : Int32)) + (1 : Int32))))))), .second, .val (.double (FP.dmul (4608083138725491507 : UInt64) (FP.ddiv (FP.i2d (((3 : Int32) * (p4 &&& (1023 : Int32))) + (1 : Int32))) (4616189618054758400 : UInt64)))), .second, .val (.int (1 : Int32))] [])) _
    refine XS.iload X8.here hx rfl (hb hby at_216) rfl ?_
    show Steps p.tables e below (T8.setTop (mkF m 218 #[.val (.int p0), .val (.int p1), .val (.int p2), .val (.int p3), .val (.int p4), .val (.int p5), .val (.int (p0 &&& (2147483647 : Int32))), .val (.int (p1 &&& (2147483647 : Int32))), .val (.int rr_1), .val (.int rr_2), .val (.int ((p2 &&& (1073741823 : Int32)) + (1 : Int32))), .val (.int ((p3 &&& (1073741823 : Int32)) + (1 : Int32))), .val (.int rr_3), .val (.int rr_4), .val (.double (FP.dmul (4608083138725491507 : UInt64) (FP.dadd (4598175219545276416 : UInt64) (FP.ddiv (FP.dmul (4604930618986332160 : UInt64) (FP.i2d rr_1)) (FP.i2d rr_3))))), .second, .val (.double (FP.dmul (4608083138725491507 : UInt64) (FP.dadd (4598175219545276416 : UInt64) (FP.ddiv (FP.dmul (4604930618986332160 : UInt64) (FP.i2d rr_2)) (FP.i2d rr_3))))), .second, .val (.double (FP.dmul (4608083138725491507 : UInt64) (FP.dadd (4598175219545276416 : UInt64) (FP.ddiv (FP.dmul (4604930618986332160 : UInt64) (FP.i2d rr_1)) (FP.i2d rr_4))))), .second, .val (.int (1 : Int32)), .val (.int (1 : Int32)), .val (.int (1 : Int32)), .val (.int (p4 &&& (1023 : Int32))), .val (.int ((p5 &&& (1048575 : Int32)) + (1 : Int32))), .val (.double (FP.dmul (4608083138725491507 : UInt64) (FP.dadd (4598175219545276416 : UInt64) (FP.ddiv (FP.dmul (4604930618986332160 : UInt64) (FP.i2d ((p4 &&& (1023 : Int32)) * ((p5 &&& (1048575 : Int32)) + (1 : Int32))))) (FP.i2d ((p5 &&& (1048575 : Int32)) + (1 : Int32))))))), .second, .val (.double (FP.dmul (4608083138725491507 : UInt64) (FP.ddiv (FP.i2d (((3 : Int32) * (p4 &&& (1023 : Int32))) + (1 : Int32))) (4616189618054758400 : UInt64)))), .second, .val (.int (1 : Int32))] [(.int (1 : Int32))])) _
    refine XS.ifNo X8.here hx rfl (hb hby at_218) rfl (by decide) ?_
    show Steps p.tables e below (T8.setTop (mkF m 221 #[.val (.int p0), .val (.int p1), .val (.int p2), .val (.int p3), .val (.int p4), .val (.int p5), .val (.int (p0 &&& (2147483647 : Int32))), .val (.int (p1 &&& (2147483647 : Int32))), .val (.int rr_1), .val (.int rr_2), .val (.int ((p2 &&& (1073741823 : Int32)) + (1 : Int32))), .val (.int ((p3 &&& (1073741823 : Int32)) + (1 : Int32))), .val (.int rr_3), .val (.int rr_4), .val (.double (FP.dmul (4608083138725491507 : UInt64) (FP.dadd (4598175219545276416 : UInt64) (FP.ddiv (FP.dmul (4604930618986332160 : UInt64) (FP.i2d rr_1)) (FP.i2d rr_3))))), .second, .val (.double (FP.dmul (4608083138725491507 : UInt64) (FP.dadd (4598175219545276416 : UInt64) (FP.ddiv (FP.dmul (4604930618986332160 : UInt64) (FP.i2d rr_2)) (FP.i2d rr_3))))), .second, .val (.double (FP.dmul (4608083138725491507 : UInt64) (FP.dadd (4598175219545276416 : UInt64) (FP.ddiv (FP.dmul (4604930618986332160 : UInt64) (FP.i2d rr_1)) (FP.i2d rr_4))))), .second, .val (.int (1 : Int32)), .val (.int (1 : Int32)), .val (.int (1 : Int32)), .val (.int (p4 &&& (1023 : Int32))), .val (.int ((p5 &&& (1048575 : Int32)) + (1 : Int32))), .val (.double (FP.dmul (4608083138725491507 : UInt64) (FP.dadd (4598175219545276416 : UInt64) (FP.ddiv (FP.dmul (4604930618986332160 : UInt64) (FP.i2d ((p4 &&& (1023 : Int32)) * ((p5 &&& (1048575 : Int32)) + (1 : Int32))))) (FP.i2d ((p5 &&& (1048575 : Int32)) + (1 : Int32))))))), .second, .val (.double (FP.dmul (4608083138725491507 : UInt64) (FP.ddiv (FP.i2d (((3 : Int32) * (p4 &&& (1023 : Int32))) + (1 : Int32))) (4616189618054758400 : UInt64)))), .second, .val (.int (1 : Int32))] [])) _
    refine XS.iload X8.here hx rfl (hb hby at_221) rfl ?_
    show Steps p.tables e below (T8.setTop (mkF m 223 #[.val (.int p0), .val (.int p1), .val (.int p2), .val (.int p3), .val (.int p4), .val (.int p5), .val (.int (p0 &&& (2147483647 : Int32))), .val (.int (p1 &&& (2147483647 : Int32))), .val (.int rr_1), .val (.int rr_2), .val (.int ((p2 &&& (1073741823 : Int32)) + (1 : Int32))), .val (.int ((p3 &&& (1073741823 : Int32)) + (1 : Int32))), .val (.int rr_3), .val (.int rr_4), .val (.double (FP.dmul (4608083138725491507 : UInt64) (FP.dadd (4598175219545276416 : UInt64) (FP.ddiv (FP.dmul (4604930618986332160 : UInt64) (FP.i2d rr_1)) (FP.i2d rr_3))))), .second, .val (.double (FP.dmul (4608083138725491507 : UInt64) (FP.dadd (4598175219545276416 : UInt64) (FP.ddiv (FP.dmul (4604930618986332160 : UInt64) (FP.i2d rr_2)) (FP.i2d rr_3))))), .second, .val (.double (FP.dmul (4608083138725491507 : UInt64) (FP.dadd (4598175219545276416 : UInt64) (FP.ddiv (FP.dmul (4604930618986332160 : UInt64) (FP.i2d rr_1)) (FP.i2d rr_4))))), .second, .val (.int (1 : Int32)), .val (.int (1 : Int32)), .val (.int (1 : Int32)), .val (.int (p4 &&& (1023 : Int32))), .val (.int ((p5 &&& (1048575 : Int32)) + (1 : Int32))), .val (.double (FP.dmul (4608083138725491507 : UInt64) (FP.dadd (4598175219545276416 : UInt64) (FP.ddiv (FP.dmul (4604930618986332160 : UInt64) (FP.i2d ((p4 &&& (1023 : Int32)) * ((p5 &&& (1048575 : Int32)) + (1 : Int32))))) (FP.i2d ((p5 &&& (1048575 : Int32)) + (1 : Int32))))))), .second, .val (.double (FP.dmul (4608083138725491507 : UInt64) (FP.ddiv (FP.i2d (((3 : Int32) * (p4 &&& (1023 : Int32))) + (1 : Int32))) (4616189618054758400 : UInt64)))), .second, .val (.int (1 : Int32))] [(.int (1 : Int32))])) _
    refine XS.ifNo X8.here hx rfl (hb hby at_223) rfl (by decide) ?_
    show Steps p.tables e below (T8.setTop (mkF m 226 #[.val (.int p0), .val (.int p1), .val (.int p2), .val (.int p3), .val (.int p4), .val (.int p5), .val (.int (p0 &&& (2147483647 : Int32))), .val (.int (p1 &&& (2147483647 : Int32))), .val (.int rr_1), .val (.int rr_2), .val (.int ((p2 &&& (1073741823 : Int32)) + (1 : Int32))), .val (.int ((p3 &&& (1073741823 : Int32)) + (1 : Int32))), .val (.int rr_3), .val (.int rr_4), .val (.double (FP.dmul (4608083138725491507 : UInt64) (FP.dadd (4598175219545276416 : UInt64) (FP.ddiv (FP.dmul (4604930618986332160 : UInt64) (FP.i2d rr_1)) (FP.i2d rr_3))))), .second, .val (.double (FP.dmul (4608083138725491507 : UInt64) (FP.dadd (4598175219545276416 : UInt64) (FP.ddiv (FP.dmul (4604930618986332160 : UInt64) (FP.i2d rr_2)) (FP.i2d rr_3))))), .second, .val (.double (FP.dmul (4608083138725491507 : UInt64) (FP.dadd (4598175219545276416 : UInt64) (FP.ddiv (FP.dmul (4604930618986332160 : UInt64) (FP.i2d rr_1)) (FP.i2d rr_4))))), .second, .val (.int (1 : Int32)), .val (.int (1 : Int32)), .val (.int (1 : Int32)), .val (.int (p4 &&& (1023 : Int32))), .val (.int ((p5 &&& (1048575 : Int32)) + (1 : Int32))), .val (.double (FP.dmul (4608083138725491507 : UInt64) (FP.dadd (4598175219545276416 : UInt64) (FP.ddiv (FP.dmul (4604930618986332160 : UInt64) (FP.i2d ((p4 &&& (1023 : Int32)) * ((p5 &&& (1048575 : Int32)) + (1 : Int32))))) (FP.i2d ((p5 &&& (1048575 : Int32)) + (1 : Int32))))))), .second, .val (.double (FP.dmul (4608083138725491507 : UInt64) (FP.ddiv (FP.i2d (((3 : Int32) * (p4 &&& (1023 : Int32))) + (1 : Int32))) (4616189618054758400 : UInt64)))), .second, .val (.int (1 : Int32))] [])) _
    refine XS.iconst X8.here hx rfl (hb hby at_226) ?_
    show Steps p.tables e below (T8.setTop (mkF m 227 #[.val (.int p0), .val (.int p1), .val (.int p2), .val (.int p3), .val (.int p4), .val (.int p5), .val (.int (p0 &&& (2147483647 : Int32))), .val (.int (p1 &&& (2147483647 : Int32))), .val (.int rr_1), .val (.int rr_2), .val (.int ((p2 &&& (1073741823 : Int32)) + (1 : Int32))), .val (.int ((p3 &&& (1073741823 : Int32)) + (1 : Int32))), .val (.int rr_3), .val (.int rr_4), .val (.double (FP.dmul (4608083138725491507 : UInt64) (FP.dadd (4598175219545276416 : UInt64) (FP.ddiv (FP.dmul (4604930618986332160 : UInt64) (FP.i2d rr_1)) (FP.i2d rr_3))))), .second, .val (.double (FP.dmul (4608083138725491507 : UInt64) (FP.dadd (4598175219545276416 : UInt64) (FP.ddiv (FP.dmul (4604930618986332160 : UInt64) (FP.i2d rr_2)) (FP.i2d rr_3))))), .second, .val (.double (FP.dmul (4608083138725491507 : UInt64) (FP.dadd (4598175219545276416 : UInt64) (FP.ddiv (FP.dmul (4604930618986332160 : UInt64) (FP.i2d rr_1)) (FP.i2d rr_4))))), .second, .val (.int (1 : Int32)), .val (.int (1 : Int32)), .val (.int (1 : Int32)), .val (.int (p4 &&& (1023 : Int32))), .val (.int ((p5 &&& (1048575 : Int32)) + (1 : Int32))), .val (.double (FP.dmul (4608083138725491507 : UInt64) (FP.dadd (4598175219545276416 : UInt64) (FP.ddiv (FP.dmul (4604930618986332160 : UInt64) (FP.i2d ((p4 &&& (1023 : Int32)) * ((p5 &&& (1048575 : Int32)) + (1 : Int32))))) (FP.i2d ((p5 &&& (1048575 : Int32)) + (1 : Int32))))))), .second, .val (.double (FP.dmul (4608083138725491507 : UInt64) (FP.ddiv (FP.i2d (((3 : Int32) * (p4 &&& (1023 : Int32))) + (1 : Int32))) (4616189618054758400 : UInt64)))), .second, .val (.int (1 : Int32))] [(.int (1 : Int32))])) _
    refine XS.goto X8.here hx rfl (pc0 := 227) (pc' := 231) rfl (hb hby at_227) (by decide) (by decide) ?_
    show Steps p.tables e below (T8.setTop (mkF m 231 #[.val (.int p0), .val (.int p1), .val (.int p2), .val (.int p3), .val (.int p4), .val (.int p5), .val (.int (p0 &&& (2147483647 : Int32))), .val (.int (p1 &&& (2147483647 : Int32))), .val (.int rr_1), .val (.int rr_2), .val (.int ((p2 &&& (1073741823 : Int32)) + (1 : Int32))), .val (.int ((p3 &&& (1073741823 : Int32)) + (1 : Int32))), .val (.int rr_3), .val (.int rr_4), .val (.double (FP.dmul (4608083138725491507 : UInt64) (FP.dadd (4598175219545276416 : UInt64) (FP.ddiv (FP.dmul (4604930618986332160 : UInt64) (FP.i2d rr_1)) (FP.i2d rr_3))))), .second, .val (.double (FP.dmul (4608083138725491507 : UInt64) (FP.dadd (4598175219545276416 : UInt64) (FP.ddiv (FP.dmul (4604930618986332160 : UInt64) (FP.i2d rr_2)) (FP.i2d rr_3))))), .second, .val (.double (FP.dmul (4608083138725491507 : UInt64) (FP.dadd (4598175219545276416 : UInt64) (FP.ddiv (FP.dmul (4604930618986332160 : UInt64) (FP.i2d rr_1)) (FP.i2d rr_4))))), .second, .val (.int (1 : Int32)), .val (.int (1 : Int32)), .val (.int (1 : Int32)), .val (.int (p4 &&& (1023 : Int32))), .val (.int ((p5 &&& (1048575 : Int32)) + (1 : Int32))), .val (.double (FP.dmul (4608083138725491507 : UInt64) (FP.dadd (4598175219545276416 : UInt64) (FP.ddiv (FP.dmul (4604930618986332160 : UInt64) (FP.i2d ((p4 &&& (1023 : Int32)) * ((p5 &&& (1048575 : Int32)) + (1 : Int32))))) (FP.i2d ((p5 &&& (1048575 : Int32)) + (1 : Int32))))))), .second, .val (.double (FP.dmul (4608083138725491507 : UInt64) (FP.ddiv (FP.i2d (((3 : Int32) * (p4 &&& (1023 : Int32))) + (1 : Int32))) (4616189618054758400 : UInt64)))), .second, .val (.int (1 : Int32))] [(.int (1 : Int32))])) _
    exact retN X8 hx (t := .boolean) Bd.returns (by simp) (hb hby at_231) hr
  · show Q0 Z p0 p1 p2 p3 p4 p5 h0 n0 _ T8.heap _
    rw [eh8]
    exact ⟨N8, rfl⟩
set_option maxRecDepth 65536 in
set_option maxHeartbeats 40000000 in
theorem comes_1 {Post : Tables → Env → Array Value → State → Outcome → State → Prop} (hpost : ∀ tb e args s v u, (limb_1_1.after args s (.returned v) u = true ∧ limb_1_2.after args s (.returned v) u = true ∧ True) → FrameEnd s (.returned v) u (Jvm.fieldLocs frame_1_writes args s ++ Jvm.arrayLocs frame_1_arrays args s ++ Jvm.staticLocs frame_1_statics s) 0 0 → Post tb e args s (.returned v) u) :
    ArmFor flags0 classFile x code maxLocals ret World_1 tables_1 room_1 Calls_1 rest_1 Pre_1 Post := by
  intro l hfl _ _ p e ha hc hk s m args below hf hA hF happ hP
  obtain ⟨hcalls, hrest, hpre⟩ := hP
  obtain ⟨-, -, -, hnamed, -, -, -, hat⟩ := (Spec.applies_iff hf).mp happ
  obtain ⟨hg, hn⟩ := and_e (Cond.before_iff.mp (show (Jvm.Cond.and given_1 narrow_1).before args s = true from hpre))
  obtain ⟨gv1, gv2⟩ := and_e hg
  obtain ⟨gv3, gv4⟩ := and_e gv2
  obtain ⟨gv5, gv6⟩ := and_e gv4
  obtain ⟨gv7, gv8⟩ := and_e gv6
  obtain ⟨gv9, gv10⟩ := and_e gv8
  obtain ⟨gv11, gv12⟩ := and_e gv10
  obtain ⟨w0, w1, w2, w3, w4, w5, rfl⟩ : ∃ w0 w1 w2 w3 w4 w5 : Value, args = #[w0, w1, w2, w3, w4, w5] := by
    have hs : args.size = 6 := by simpa [Cond.value, given_1] using gv1
    obtain ⟨L⟩ := args
    match L, hs with
    | [w0, w1, w2, w3, w4, w5], _ => exact ⟨w0, w1, w2, w3, w4, w5, rfl⟩
  have hw := fun d (hd : d ∈ tables_1) => atoms_spec (ws := Jvm.Cond.code x code maxLocals ret :: tables_1) hat d (List.mem_cons_of_mem _ hd)
  have hfit : Fit s := fun {y c} hc i hi => by
    obtain ⟨ha, rfl⟩ := Array.getElem?_eq_some_iff.mp hc
    have q := List.all_eq_true.mp ((Array.all_eq_true_iff_forall_mem.mp hF) _ (Array.getElem_mem ha)) i (List.mem_range.mpr hi)
    simpa [Array.getElem?_eq_getElem hi] using q
  obtain ⟨i0, ei0⟩ := is_v gv3
  obtain rfl : w0 = (.int i0) := Option.some.inj ei0
  obtain ⟨i1, ei1⟩ := is_v gv5
  obtain rfl : w1 = (.int i1) := Option.some.inj ei1
  obtain ⟨i2, ei2⟩ := is_v gv7
  obtain rfl : w2 = (.int i2) := Option.some.inj ei2
  obtain ⟨i3, ei3⟩ := is_v gv9
  obtain rfl : w3 = (.int i3) := Option.some.inj ei3
  obtain ⟨i4, ei4⟩ := is_v gv11
  obtain rfl : w4 = (.int i4) := Option.some.inj ei4
  obtain ⟨i5, ei5⟩ := is_v gv12
  obtain rfl : w5 = (.int i5) := Option.some.inj ei5
  obtain ⟨n, o, h1, h2, h3, _, L, rfl, ⟨N, rfl⟩, hq⟩ := rm0 l s _ hw tables_1 i0 i1 i2 i3 i4 i5 s.heap s.heap.size (Nat.le_refl _) p e ha hc hk s m _ below hf ((Spec.applies_iff_loose hf).mp happ).1 ⟨rfl, State.Warmed39.refl s, rfl⟩ trivial
  refine ⟨n, _, h1, h2, h3, hpost _ _ _ _ _ _ ⟨Cond.after_iff.mpr rfl, Cond.after_iff.mpr (eq_i res_at (Term.int_eval (1)) rfl), trivial⟩ ⟨hq.1, hq.2.1, (hq.2.2.sift fun y hy => Or.inr (N y hy)).mono (by decide) (by decide)⟩⟩
theorem main_1_1 : Claimed_1_1 := comes_1 fun _ _ _ _ _ _ h hF => ⟨h.1, hF⟩
theorem main_1_2 : Claimed_1_2 := comes_1 fun _ _ _ _ _ _ h hF => ⟨h.2.1, hF⟩
end Jvm.Pilot.@@N@@
namespace Jvm.Pilot.@@N@@
open Jvm Jvm.ClassFile Sem Op Lib Jvm.Free Jvm.Stand Jvm.Pilot.@@N@@.Jvm.D
/-! MADE BY PROGRAM (witnessworld.py) out of the Statement's table words and the real class files: 10 classes; the members and pool entries that the words name. The judged class is class 1, her method 1. -/
namespace start1
open Jvm.ClassFile
def u (s : String) : CpInfo := .utf8 (stringToUtf16 s)
/-- a pool by its gaps: so many unusable entries, then the entry; so many at the end -/
def gap : Nat → List CpInfo → List CpInfo
  | 0, r => r
  | n + 1, r => .unusable :: gap n r
def poolList (es : List (Nat × CpInfo)) (last : Nat) : List CpInfo := es.foldr (fun e r => gap e.1 (e.2 :: r)) (gap last [])
def pool (es : List (Nat × CpInfo)) (last : Nat) : Array CpInfo := ⟨poolList es last⟩
def fileOf (pool : Array CpInfo) (this : Nat) (attrs : Array Attribute := #[]) (ms : Array MethodInfo := #[]) (fl : Nat := 33) (sup : Nat := 0) (ifs : Array Nat := #[]) (fds : Array FieldInfo := #[]) : ClassFile where
  minorVersion := 0
  majorVersion := 65
  constantPool := pool
  accessFlags := fl
  thisClass := this
  superClass := sup
  interfaces := ifs
  fields := fds
  methods := ms
  attributes := attrs
def plain (name : String) (sup : Option ClassId) : Class where
  name := name
  kind := .ordinary
  loader := none
  accessFlags := 33
  super := sup
  interfaces := #[]
  cf := none
  fields := #[]
  methods := #[]
  instanceTypes := #[]
  staticTypes := #[]
  resolved := #[]
  callSites := []
  init := .initialized
  statics := none
  mirror := none

def pool0 : Array CpInfo := pool [(5, u "<init>"), (0, u "()V"), (1, .class_ 10), (1, u "java/lang/Object")] 113

def k0m0 : Method := { name := "<init>", desc := "()V", sig := { parameters := [], returnType := none }, accessFlags := 1, code := none }
/-- java/lang/Object -/
def k0 : Class := { plain "java/lang/Object" none with
  accessFlags := 33
  interfaces := #[]
  cf := some (fileOf pool0 8 #[] #[{ accessFlags := 1, nameIndex := 5, descriptorIndex := 6, attributes := #[] }] 33 0 #[] #[])
  fields := #[]
  methods := #[k0m0]
  instanceTypes := #[]
  staticTypes := #[]
  resolved := Array.replicate 124 none
  statics := none }

def pool1 : Array CpInfo := pool [(2, .class_ 4), (1, u "java/lang/Object"), (0, u "<init>"), (0, u "()V"), (0, .integer 2147483647), (0, .methodref 9 10), (0, .class_ 11), (0, .nameAndType 12 13), (0, u "java/lang/Math"), (0, u "min"), (0, u "(II)I"), (0, .methodref 9 15), (0, .nameAndType 16 13), (0, u "max"), (0, .integer 1073741823), (0, .methodref 19 20), (0, .class_ 21), (0, .nameAndType 22 23), (0, u "com/example/multilingual_query_search/multilingualquerysearch/scoring/Bm25"), (0, u "lengthNormalisation"), (0, u "(DD)D"), (0, .double 4599075939470750515), (1, .integer 1048575), (0, .double 4608083138725491507), (1, .double 4616189618054758400), (1, .class_ 32), (0, u "com/example/multilingual_query_search/multilingualquerysearch/scoring/Bm25LengthNormalisationPinLaw"), (2, u "law"), (0, u "(IIIIII)Z")] 3

def k1m0 : Method := { name := "<init>", desc := "()V", sig := { parameters := [], returnType := none }, accessFlags := 2, code := none }
def k1c1 : Code := { maxStack := 6, maxLocals := 30, code := code, exceptionTable := #[], attributes := #[] }
def k1m1 : Method := { name := "law", desc := "(IIIIII)Z", sig := { parameters := [.int, .int, .int, .int, .int, .int], returnType := some .boolean }, accessFlags := 9, code := some k1c1 }
/-- com/example/multilingual_query_search/multilingualquerysearch/scoring/Bm25LengthNormalisationPinLaw -/
def k1 : Class := { plain "com/example/multilingual_query_search/multilingualquerysearch/scoring/Bm25LengthNormalisationPinLaw" (some 0) with
  accessFlags := 49
  interfaces := #[]
  cf := some (fileOf pool1 31 #[] #[{ accessFlags := 2, nameIndex := 5, descriptorIndex := 6, attributes := #[] }, { accessFlags := 9, nameIndex := 35, descriptorIndex := 36, attributes := #[] }] 49 2 #[] #[])
  fields := #[]
  methods := #[k1m0, k1m1]
  instanceTypes := #[]
  staticTypes := #[]
  resolved := Array.replicate 40 none
  statics := none }

def pool2 : Array CpInfo := pool [(1, .class_ 2), (0, u "java/lang/Math"), (1, .class_ 6), (1, u "java/lang/Object"), (0, u "<init>"), (0, u "()V"), (89, .class_ 100), (1, u "java/lang/Math$RandomNumberGeneratorHolder"), (71, u "negativeZeroFloatBits"), (0, u "J"), (2, u "negativeZeroDoubleBits"), (21, u "max"), (2, u "min"), (43, u "$assertionsDisabled"), (0, u "Z"), (88, u "(II)I"), (2, u "twoToTheDoubleScaleDown"), (0, u "D"), (4, u "twoToTheDoubleScaleUp"), (9, u "E"), (3, u "PI"), (2, u "TAU"), (2, u "DEGREES_TO_RADIANS"), (0, u "RADIANS_TO_DEGREES")] 94

def k2m0 : Method := { name := "<init>", desc := "()V", sig := { parameters := [], returnType := none }, accessFlags := 2, code := none }
def k2c1 : Code := { maxStack := 2, maxLocals := 2, code := jdk_29_method_65_code, exceptionTable := #[], attributes := #[] }
def k2m1 : Method := { name := "max", desc := "(II)I", sig := { parameters := [.int, .int], returnType := some .int }, accessFlags := 9, code := some k2c1 }
def k2c2 : Code := { maxStack := 2, maxLocals := 2, code := jdk_29_method_69_code, exceptionTable := #[], attributes := #[] }
def k2m2 : Method := { name := "min", desc := "(II)I", sig := { parameters := [.int, .int], returnType := some .int }, accessFlags := 9, code := some k2c2 }
/-- java/lang/Math -/
def k2 : Class := { plain "java/lang/Math" (some 0) with
  accessFlags := 49
  interfaces := #[]
  cf := some (fileOf pool2 1 #[.nestMembers #[98]] #[{ accessFlags := 2, nameIndex := 7, descriptorIndex := 8, attributes := #[] }, { accessFlags := 9, nameIndex := 198, descriptorIndex := 335, attributes := #[] }, { accessFlags := 9, nameIndex := 201, descriptorIndex := 335, attributes := #[] }] 49 4 #[] #[{ accessFlags := 25, nameIndex := 354, descriptorIndex := 339, attributes := #[] }, { accessFlags := 25, nameIndex := 358, descriptorIndex := 339, attributes := #[] }, { accessFlags := 25, nameIndex := 361, descriptorIndex := 339, attributes := #[] }, { accessFlags := 26, nameIndex := 364, descriptorIndex := 339, attributes := #[] }, { accessFlags := 26, nameIndex := 365, descriptorIndex := 339, attributes := #[] }, { accessFlags := 26, nameIndex := 172, descriptorIndex := 173, attributes := #[] }, { accessFlags := 26, nameIndex := 176, descriptorIndex := 173, attributes := #[] }, { accessFlags := 8, nameIndex := 344, descriptorIndex := 339, attributes := #[] }, { accessFlags := 8, nameIndex := 338, descriptorIndex := 339, attributes := #[] }, { accessFlags := 4120, nameIndex := 245, descriptorIndex := 246, attributes := #[] }])
  fields := #[{ name := "E", type := .double, accessFlags := 25, slot := 0, constantValue := 0 }, { name := "PI", type := .double, accessFlags := 25, slot := 1, constantValue := 0 }, { name := "TAU", type := .double, accessFlags := 25, slot := 2, constantValue := 0 }, { name := "DEGREES_TO_RADIANS", type := .double, accessFlags := 26, slot := 3, constantValue := 0 }, { name := "RADIANS_TO_DEGREES", type := .double, accessFlags := 26, slot := 4, constantValue := 0 }, { name := "negativeZeroFloatBits", type := .long, accessFlags := 26, slot := 5, constantValue := 0 }, { name := "negativeZeroDoubleBits", type := .long, accessFlags := 26, slot := 6, constantValue := 0 }, { name := "twoToTheDoubleScaleUp", type := .double, accessFlags := 8, slot := 7, constantValue := 0 }, { name := "twoToTheDoubleScaleDown", type := .double, accessFlags := 8, slot := 8, constantValue := 0 }, { name := "$assertionsDisabled", type := .boolean, accessFlags := 4120, slot := 9, constantValue := 0 }]
  methods := #[k2m0, k2m1, k2m2]
  instanceTypes := #[]
  staticTypes := #[.double, .double, .double, .double, .double, .long, .long, .double, .double, .boolean]
  resolved := Array.replicate 460 none
  statics := none }

def pool3 : Array CpInfo := pool [(2, .class_ 4), (1, u "java/lang/Object"), (0, u "<init>"), (0, u "()V"), (8, .class_ 16), (0, u "com/example/multilingual_query_search/multilingualquerysearch/scoring/Bm25"), (0, .double 4608083138725491507), (1, .double 4598175219545276416), (1, .double 4604930618986332160), (1, u "K1"), (0, u "D"), (1, u "B"), (4, u "lengthNormalisation"), (0, u "(DD)D")] 4

def k3m0 : Method := { name := "<init>", desc := "()V", sig := { parameters := [], returnType := none }, accessFlags := 2, code := none }
def k3c1 : Code := { maxStack := 8, maxLocals := 4, code := prog_21_method_3_code, exceptionTable := #[], attributes := #[] }
def k3m1 : Method := { name := "lengthNormalisation", desc := "(DD)D", sig := { parameters := [.double, .double], returnType := some .double }, accessFlags := 9, code := some k3c1 }
/-- com/example/multilingual_query_search/multilingualquerysearch/scoring/Bm25 -/
def k3 : Class := { plain "com/example/multilingual_query_search/multilingualquerysearch/scoring/Bm25" (some 0) with
  accessFlags := 49
  interfaces := #[]
  cf := some (fileOf pool3 15 #[] #[{ accessFlags := 2, nameIndex := 5, descriptorIndex := 6, attributes := #[] }, { accessFlags := 9, nameIndex := 31, descriptorIndex := 32, attributes := #[] }] 49 2 #[] #[{ accessFlags := 25, nameIndex := 23, descriptorIndex := 24, attributes := #[] }, { accessFlags := 25, nameIndex := 26, descriptorIndex := 24, attributes := #[] }])
  fields := #[{ name := "K1", type := .double, accessFlags := 25, slot := 0, constantValue := 0 }, { name := "B", type := .double, accessFlags := 25, slot := 1, constantValue := 0 }]
  methods := #[k3m0, k3m1]
  instanceTypes := #[]
  staticTypes := #[.double, .double]
  resolved := Array.replicate 37 none
  statics := none }

def pool4 : Array CpInfo := pool [(1, u "java/lang/Cloneable"), (0, .class_ 1), (0, u "java/lang/Object"), (0, .class_ 3)] 3

/-- java/lang/Cloneable -/
def k4 : Class := { plain "java/lang/Cloneable" (some 0) with
  accessFlags := 1537
  interfaces := #[]
  cf := some (fileOf pool4 2 #[] #[] 1537 4 #[] #[])
  fields := #[]
  methods := #[]
  instanceTypes := #[]
  staticTypes := #[]
  resolved := Array.replicate 8 none
  statics := none }

def pool5 : Array CpInfo := pool [(1, u "java/io/Serializable"), (0, .class_ 1), (0, u "java/lang/Object"), (0, .class_ 3)] 3

/-- java/io/Serializable -/
def k5 : Class := { plain "java/io/Serializable" (some 0) with
  accessFlags := 1537
  interfaces := #[]
  cf := some (fileOf pool5 2 #[] #[] 1537 4 #[] #[])
  fields := #[]
  methods := #[]
  instanceTypes := #[]
  staticTypes := #[]
  resolved := Array.replicate 8 none
  statics := none }

/-- the primitive byte -/
def k6 : Class := { plain "byte" none with kind := .primitive 'B', accessFlags := 0x411 }
/-- [B -/
def k7 : Class := { plain "[B" (some 0) with kind := .array 6 .byte, interfaces := #[4, 5], accessFlags := 1041 }

/-- the primitive int -/
def k8 : Class := { plain "int" none with kind := .primitive 'I', accessFlags := 0x411 }
/-- [I -/
def k9 : Class := { plain "[I" (some 0) with kind := .array 8 .int, interfaces := #[4, 5], accessFlags := 1041 }

def heap : Heap := #[]
def classes : Array Class := #[k0, k1, k2, k3, k4, k5, k6, k7, k8, k9]
def interned : List (Array UInt16 × Addr) := []
def slotsUsed : Nat := 0
def theMethod : MethodId := ⟨1, 1⟩
def args0 : Array Value := #[.int 5, .int 3, .int 1, .int 2, .int 3, .int 4]
def aboutOver (below : List Frame) : State where
  vm := { classes := classes, interned := interned.toArray }
  heap := heap
  slotsUsed := slotsUsed
  threads := #[{ frames := .invoking theMethod args0 :: below }]
def below0 : List Frame := [.native { method := ⟨0, 0⟩, args := #[] }]
def about1 : State := aboutOver below0
def p0 : Program := .bare "" "" ""
def e0 : Env := launch0.env 0 0 0
theorem w_frames : about1.frames = Frame.invoking theMethod args0 :: below0 := rfl
set_option maxRecDepth 65536 in
theorem w_args : argsFit about1.vm theMethod args0 = true := by decide +kernel
set_option maxRecDepth 65536 in
theorem w_heap : heapFits about1 = true := by decide +kernel
set_option maxRecDepth 65536 in
theorem w_runnable : about1.curStatus? = some .runnable := by decide +kernel
set_option maxRecDepth 65536 in
theorem w_alone : about1.alone = true := by decide +kernel
set_option maxRecDepth 65536 in
theorem w_named : about1.methodNamed? x = some theMethod := by decide +kernel
set_option maxRecDepth 65536 in
theorem w_hears : about1.hears theMethod below0 = true := by decide +kernel
set_option maxRecDepth 65536 in
theorem w_ripe : about1.ripe theMethod args0 below0 = true := by decide +kernel
theorem w_running : about1.status = .running := rfl
set_option maxRecDepth 65536 in
theorem w_room : about1.hasRoom e0.platform room_1 = true :=
  launch0.hasRoom_least _ room_1 (by decide +kernel) (by decide +kernel) (by decide +kernel) (by decide +kernel) (by decide +kernel) (by decide +kernel)
theorem allAtoms_all (ts : List Jvm.Cond) (a : Array Jvm.Value) (st : Jvm.State) : (allAtoms ts).before a st = ts.all (fun c => c.before a st) := by
  induction ts with
  | nil => rfl
  | cons c t ih =>
    show (Jvm.Cond.and c (allAtoms t)).before a st = _
    rw [Jvm.Cond.before_and, ih, List.all_cons]
def words1 : List Jvm.Cond := Jvm.Cond.code x code maxLocals ret :: tables_1
/-- a 'code' word, met by the world's own term for the bytes: nothing is compared byte by byte -/
theorem code_word {y : MethodName} {bytes : ByteArray} {mx : Nat} {rt : Option FieldType} {a : Array Value} {s : State} {m : MethodId} {meth : Method} {c : Code} (h1 : s.methodNamed? y = some m) (h2 : s.vm.method? m = some meth) (h3 : meth.code = some c) (h4 : c.code = bytes)
    (h5 : (c.maxLocals == mx && c.exceptionTable.isEmpty && decide (c.maxStack ≤ mostOperands) && decide (meth.sig.returnType = rt) && !meth.locks && decide (parseMethodDescriptor y.desc = some meth.sig)) = true) : (Jvm.Cond.code y bytes mx rt).before a s = true := by
  simp only [Bool.and_eq_true, beq_iff_eq, Bool.not_eq_true', decide_eq_true_eq] at h5
  obtain ⟨⟨⟨⟨⟨g1, g2⟩, g3⟩, g4⟩, g5⟩, g6⟩ := h5
  simp [Cond.before, Cond.holds, Cond.value, h1, h2, h3, h4, g1, g2, g3, g4, g5, g6]
def isCode : Jvm.Cond → Bool
  | .code _ _ _ _ => true
  | _ => false
theorem all_split {L : List Jvm.Cond} {P : Jvm.Cond → Bool} (h1 : L.all (fun c => isCode c || P c) = true) (h2 : ∀ c ∈ L.filter isCode, P c = true) : L.all P = true := by
  refine List.all_eq_true.mpr fun c hc => ?_
  have h := List.all_eq_true.mp h1 c hc
  rcases Bool.eq_false_or_eq_true (isCode c) with hi | hi
  · exact h2 c (List.mem_filter.mpr ⟨hc, hi⟩)
  · simpa [hi] using h
set_option maxRecDepth 65536 in
theorem w_c0 : (Jvm.Cond.code x code maxLocals ret).before args0 about1 = true := code_word (m := ⟨1, 1⟩) (meth := k1m1) (c := k1c1) (by decide +kernel) rfl rfl rfl (by decide +kernel)
set_option maxRecDepth 65536 in
theorem w_c1 : (Jvm.Cond.code ({ cls := "java/lang/Math", name := "min", desc := "(II)I" } : Jvm.MethodName) jdk_29_method_69_code (2 : Nat) (Option.some Jvm.ClassFile.FieldType.int)).before args0 about1 = true := code_word (m := ⟨2, 2⟩) (meth := k2m2) (c := k2c2) (by decide +kernel) rfl rfl rfl (by decide +kernel)
set_option maxRecDepth 65536 in
theorem w_c2 : (Jvm.Cond.code ({ cls := "java/lang/Math", name := "max", desc := "(II)I" } : Jvm.MethodName) jdk_29_method_65_code (2 : Nat) (Option.some Jvm.ClassFile.FieldType.int)).before args0 about1 = true := code_word (m := ⟨2, 1⟩) (meth := k2m1) (c := k2c1) (by decide +kernel) rfl rfl rfl (by decide +kernel)
set_option maxRecDepth 65536 in
theorem w_c3 : (Jvm.Cond.code ({ cls := "com/example/multilingual_query_search/multilingualquerysearch/scoring/Bm25", name := "lengthNormalisation", desc := "(DD)D" } : Jvm.MethodName) prog_21_method_3_code (4 : Nat) (Option.some Jvm.ClassFile.FieldType.double)).before args0 about1 = true := code_word (m := ⟨3, 1⟩) (meth := k3m1) (c := k3c1) (by decide +kernel) rfl rfl rfl (by decide +kernel)
def codes1 : List Jvm.Cond := [Jvm.Cond.code x code maxLocals ret, Jvm.Cond.code ({ cls := "java/lang/Math", name := "min", desc := "(II)I" } : Jvm.MethodName) jdk_29_method_69_code (2 : Nat) (Option.some Jvm.ClassFile.FieldType.int), Jvm.Cond.code ({ cls := "java/lang/Math", name := "max", desc := "(II)I" } : Jvm.MethodName) jdk_29_method_65_code (2 : Nat) (Option.some Jvm.ClassFile.FieldType.int), Jvm.Cond.code ({ cls := "com/example/multilingual_query_search/multilingualquerysearch/scoring/Bm25", name := "lengthNormalisation", desc := "(DD)D" } : Jvm.MethodName) prog_21_method_3_code (4 : Nat) (Option.some Jvm.ClassFile.FieldType.double)]
set_option maxRecDepth 65536 in
theorem codes_eq : words1.filter isCode = codes1 := rfl
theorem w_codes : ∀ c ∈ words1.filter isCode, c.before args0 about1 = true := by
  rw [codes_eq]
  intro c hc
  simp only [codes1, List.mem_cons, List.not_mem_nil, or_false] at hc
  rcases hc with rfl | rfl | rfl | rfl
  · exact w_c0
  · exact w_c1
  · exact w_c2
  · exact w_c3
set_option maxRecDepth 65536 in
theorem w_t1 : words1.all (fun c => isCode c || c.before args0 about1) = true := by decide +kernel
theorem w_tables : (allAtoms (Jvm.Cond.code x code maxLocals ret :: tables_1)).before args0 about1 = true := by
  rw [allAtoms_all]
  show words1.all (fun c => c.before args0 about1) = true
  refine all_split ?_ w_codes
  rw [w_t1]
set_option maxRecDepth 65536 in
theorem w_case : (Jvm.Cond.and given_1 narrow_1).before args0 about1 = true := by decide +kernel
theorem w_applies : (headSpec (Jvm.Cond.code x code maxLocals ret :: tables_1) room_1).applies x e0.platform about1 = true :=
  (Spec.applies_iff w_frames).mpr ⟨w_running, w_runnable, w_alone, w_named, w_hears, w_ripe, w_room, w_tables⟩
theorem atStart : AtStart classFile x code maxLocals ret World_1 tables_1 room_1 Calls_1 rest_1 Pre_1 launch0 p0 e0 about1 theMethod args0 below0 :=
  ⟨lists_1, trivial, launch0.admits_env _ _ _, launch0.least_env, fairChoices_fair.cas, fairChoices_fair.clock, w_frames, w_args, w_heap, w_applies, trivial, trivial, w_case⟩
end start1
theorem witness_1 : WitnessClaimed_1 := ⟨start1.p0, start1.e0, start1.about1, start1.theMethod, start1.args0, start1.below0, start1.atStart⟩
end Jvm.Pilot.@@N@@
