import JvmDerived
import JvmDerived.Pilot.@@N@@Statement
import JvmDerived.Pilot.@@N@@Code
set_option linter.unusedVariables false
set_option linter.unusedSimpArgs false
namespace Jvm.Pilot.@@N@@
open Jvm Jvm.ClassFile Sem Op Lib Jvm.Free Jvm.Stand Jvm.LawKit Jvm.RoadKit Bundle Jvm.Pilot.@@N@@.Jvm.D
theorem own_k {Z : State} {a0 : Array Value} (hw : ∀ d ∈ tables_1, d.before a0 Z = true) (i : Nat) {d : Jvm.Cond} (h : tables_1[i]? = some d) : d.before a0 Z = true := hw _ (List.mem_of_getElem? h)
section OwnFP
open FP.Core
/-- 2^1074: how many of the least doubles make one -/
def own_P : Nat := 2 ^ (-b64.qmin).toNat
theorem own_P_pos : 0 < own_P := Nat.two_pow_pos _
/-- a datum as a whole number of the least doubles -/
abbrev own_Z (x : Datum) : Int := zval b64 x
/-- x is N / D (in units of the least double), rounded -/
def own_R (N : Int) (D : Nat) (x : Datum) : Prop := 0 < D ∧ ∃ s : Bool, signed s N.natAbs = N ∧ x = roundRatio b64 s N.natAbs D b64.qmin
/-- a finite datum of the format -/
def own_F (x : Datum) : Prop := FP.Core.fits b64 x ∧ ∃ s c q, x = .fin s c q
theorem own_F.ne {x : Datum} (h : own_F x) : x ≠ .nan := by obtain ⟨-, s, c, q, rfl⟩ := h; exact nofun
theorem own_iu (A : Nat) (q : Int) : inUnits A q q = A := by unfold inUnits; simp
theorem own_e0 : 2 ^ (b64.qmin - b64.qmin).toNat = 1 := by simp
theorem own_R.ne {N : Int} {D : Nat} {x : Datum} (h : own_R N D x) : x ≠ .nan := by obtain ⟨-, s, -, rfl⟩ := h; exact roundRatio_ne_nan _ _ _ _ _
theorem own_R.fits {N : Int} {D : Nat} {x : Datum} (h : own_R N D x) : FP.Core.fits b64 x := by obtain ⟨hD, s, -, rfl⟩ := h; exact roundRatio_fits good_b64 _ _ hD _
theorem own_R_le {N : Int} {D : Nat} {x V : Datum} (h : own_R N D x) (hV : FP.Core.fits b64 V) (hn : V ≠ .nan) (hle : N ≤ own_Z V * (D : Int)) : own_Z x ≤ own_Z V := by
  obtain ⟨hD, s, hs, rfl⟩ := h
  have h1 := zmag_roundRatio_le good_b64 (s := s) (A := N.natAbs) (B := D) (e := b64.qmin) (e0 := b64.qmin) hD hV hn (Int.le_refl _) (Int.le_refl _)
  have h2 := zmag_roundRatio_ge good_b64 (s := s) (A := N.natAbs) (B := D) (e := b64.qmin) (e0 := b64.qmin) hD hV (Int.le_refl _) (Int.le_refl _)
  rw [own_iu, own_e0, Nat.mul_one] at h1 h2
  unfold own_Z zval at *
  rw [sgn_roundRatio]
  generalize zmag b64 (roundRatio b64 s N.natAbs D b64.qmin) = r at *
  generalize zmag b64 V = z at *
  have hz : z * D = 0 → z = 0 := by
    intro h
    rcases Nat.mul_eq_zero.mp h with h | h <;> omega
  have ez : (z : Int) * (D : Int) = ((z * D : Nat) : Int) := by push_cast; rfl
  generalize sgn V = t at *
  generalize hk : N.natAbs = k at *
  cases s <;> cases t <;> simp only [signed, if_true, Bool.false_eq_true, if_false, Int.neg_mul] at * <;> rw [ez] at hle <;> generalize z * D = w at *
  · have := h1 (by omega); omega
  · have := h1 (by omega); have := hz (by omega); omega
  · omega
  · have := h2 (by omega); omega
theorem own_R.neg {N : Int} {D : Nat} {x : Datum} (h : own_R N D x) : own_R (-N) D (negate x) := by
  obtain ⟨hD, s, hs, rfl⟩ := h
  refine ⟨hD, !s, ?_, ?_⟩
  · rw [Int.natAbs_neg]
    generalize N.natAbs = k at *
    cases s <;> simp only [signed, if_true, Bool.false_eq_true, if_false, Bool.not_true, Bool.not_false] at * <;> omega
  · rw [Int.natAbs_neg, negate_roundRatio]
theorem own_R_ge {N : Int} {D : Nat} {x V : Datum} (h : own_R N D x) (hV : FP.Core.fits b64 V) (hn : V ≠ .nan) (hle : own_Z V * (D : Int) ≤ N) : own_Z V ≤ own_Z x := by
  have q := own_R_le h.neg (V := negate V) (negate_fits hV) (negate_ne_nan hn) (by unfold own_Z at *; rw [zval_negate, Int.neg_mul]; omega)
  unfold own_Z at *
  rw [zval_negate, zval_negate] at q
  omega
theorem own_mag_mono {s : Bool} {A1 D1 A2 D2 : Nat} (h1 : 0 < D1) (h2 : 0 < D2) {c1 c2 : Nat} {q1 q2 : Int} {s1 s2 : Bool} (hx : roundRatio b64 s A1 D1 b64.qmin = .fin s1 c1 q1) (hy : roundRatio b64 s A2 D2 b64.qmin = .fin s2 c2 q2) (h : A1 * D2 ≤ A2 * D1) :
    zmag b64 (.fin s1 c1 q1) ≤ zmag b64 (.fin s2 c2 q2) := by
  have fx : FP.Core.fits b64 (.fin s1 c1 q1) := hx ▸ roundRatio_fits good_b64 s A1 h1 _
  have fy : FP.Core.fits b64 (.fin s2 c2 q2) := hy ▸ roundRatio_fits good_b64 s A2 h2 _
  have l1 := zmag_roundRatio_le good_b64 (s := s) (A := A1) (B := D1) (e := b64.qmin) (e0 := b64.qmin) h1 fy (by exact nofun) (Int.le_refl _) (Int.le_refl _)
  have l2 := zmag_roundRatio_ge good_b64 (s := s) (A := A2) (B := D2) (e := b64.qmin) (e0 := b64.qmin) h2 fx (Int.le_refl _) (Int.le_refl _)
  have n1 := roundRatio_nearest good_b64 h1 hx fy.1 fy.2.1 (Int.le_refl _) (Int.le_refl _)
  have n2 := roundRatio_nearest good_b64 h2 hy fx.1 fx.2.1 (Int.le_refl _) (Int.le_refl _)
  rw [own_iu, own_e0, Nat.mul_one] at l1 l2
  rw [hx] at l1
  rw [hy] at l2
  unfold distance at n1 n2
  rw [own_iu] at n1 n2
  change zmag b64 (.fin s1 c1 q1) ≤ _
  have ex : inUnits c1 q1 b64.qmin = zmag b64 (.fin s1 c1 q1) := rfl
  have ey : inUnits c2 q2 b64.qmin = zmag b64 (.fin s2 c2 q2) := rfl
  rw [ex, ey] at n1 n2
  rcases Nat.lt_or_ge (zmag b64 (.fin s2 c2 q2)) (zmag b64 (.fin s1 c1 q1)) with hlt | hge
  · exfalso
    have k1 : zmag b64 (.fin s2 c2 q2) * D1 < A1 := Nat.lt_of_not_le fun q => absurd (l1 q) (Nat.not_le.mpr hlt)
    have k2 : A2 < zmag b64 (.fin s1 c1 q1) * D2 := Nat.lt_of_not_le fun q => absurd (l2 q) (Nat.not_le.mpr hlt)
    generalize zmag b64 (.fin s1 c1 q1) = zx at *
    generalize zmag b64 (.fin s2 c2 q2) = zy at *
    -- A1 < zx * D1, zy * D2 < A2
    have k3 : A1 < zx * D1 := by
      have : A1 * D2 < zx * D1 * D2 := Nat.lt_of_le_of_lt h (by
        have := Nat.mul_lt_mul_of_pos_right k2 h1
        calc A2 * D1 < zx * D2 * D1 := this
          _ = zx * D1 * D2 := by rw [Nat.mul_assoc, Nat.mul_comm D2 D1, ← Nat.mul_assoc])
      exact Nat.lt_of_mul_lt_mul_right this
    have k4 : zy * D2 < A2 := by
      have : zy * D2 * D1 < A2 * D1 := Nat.lt_of_lt_of_le (by
        have := Nat.mul_lt_mul_of_pos_right k1 h2
        calc zy * D2 * D1 = zy * D1 * D2 := by rw [Nat.mul_assoc, Nat.mul_comm D2 D1, ← Nat.mul_assoc]
          _ < A1 * D2 := this) h
      exact Nat.lt_of_mul_lt_mul_right this
    have m1 : zx * D1 + zy * D1 ≤ 2 * A1 := by
      have e1 : (zx : Int) * (D1 : Int) = ((zx * D1 : Nat) : Int) := by push_cast; rfl
      have e2 : (zy : Int) * (D1 : Int) = ((zy * D1 : Nat) : Int) := by push_cast; rfl
      rw [e1, e2] at n1
      generalize zx * D1 = u at *
      generalize zy * D1 = v at *
      omega
    have m2 : 2 * A2 ≤ zx * D2 + zy * D2 := by
      have e1 : (zx : Int) * (D2 : Int) = ((zx * D2 : Nat) : Int) := by push_cast; rfl
      have e2 : (zy : Int) * (D2 : Int) = ((zy * D2 : Nat) : Int) := by push_cast; rfl
      rw [e1, e2] at n2
      generalize zx * D2 = u at *
      generalize zy * D2 = v at *
      omega
    have p1 : (zx + zy) * D1 * D2 ≤ 2 * A1 * D2 := Nat.mul_le_mul_right _ (by rw [Nat.add_mul]; exact m1)
    have p2 : 2 * A2 * D1 ≤ (zx + zy) * D2 * D1 := Nat.mul_le_mul_right _ (by rw [Nat.add_mul]; exact m2)
    have p3 : (zx + zy) * D2 * D1 = (zx + zy) * D1 * D2 := by rw [Nat.mul_assoc, Nat.mul_comm D2 D1, ← Nat.mul_assoc]
    have p4 : A2 * D1 ≤ A1 * D2 := by
      have q1 : (zx + zy) * D1 * D2 ≤ 2 * (A1 * D2) := by rw [← Nat.mul_assoc 2]; exact p1
      have q2 : 2 * (A2 * D1) ≤ (zx + zy) * D1 * D2 := by rw [← Nat.mul_assoc 2, ← p3]; exact p2
      generalize (zx + zy) * D1 * D2 = w at *
      generalize A1 * D2 = u at *
      generalize A2 * D1 = v at *
      omega
    have p5 : A1 * D2 = A2 * D1 := Nat.le_antisymm h p4
    have cg := roundRatio_congr (f := b64) (s := s) (A := A1) (B := D1) (A' := A2) (B' := D2) (e := b64.qmin) (e' := b64.qmin) h1 h2 (by rw [own_e0, Nat.mul_one, Nat.mul_one]; exact p5)
    rw [hx, hy] at cg
    cases cg
    omega
  · exact hge
theorem own_R_mono {N1 N2 : Int} {D1 D2 : Nat} {x y : Datum} (hx : own_R N1 D1 x) (hy : own_R N2 D2 y) (fx : ∃ s c q, x = .fin s c q) (fy : ∃ s c q, y = .fin s c q) (h : N1 * (D2 : Int) ≤ N2 * (D1 : Int)) : own_Z x ≤ own_Z y := by
  obtain ⟨h1, s, hs, ex⟩ := hx
  obtain ⟨h2, t, ht, ey⟩ := hy
  obtain ⟨s1, c1, q1, rfl⟩ := fx
  obtain ⟨s2, c2, q2, rfl⟩ := fy
  have g1 : s1 = s := by have := sgn_roundRatio b64 s N1.natAbs D1 b64.qmin; rw [← ex] at this; exact this
  have g2 : s2 = t := by have := sgn_roundRatio b64 t N2.natAbs D2 b64.qmin; rw [← ey] at this; exact this
  subst g1 g2
  unfold own_Z zval
  show signed s1 _ ≤ signed s2 _
  generalize hA : N1.natAbs = A at *
  generalize hB : N2.natAbs = B at *
  have eA : (A : Int) * (D2 : Int) = ((A * D2 : Nat) : Int) := by push_cast; rfl
  have eB : (B : Int) * (D1 : Int) = ((B * D1 : Nat) : Int) := by push_cast; rfl
  cases s1 <;> cases s2 <;> simp only [signed, if_true, Bool.false_eq_true, if_false] at hs ht ⊢ <;> rw [← hs, ← ht] at h <;> (try rw [Int.neg_mul] at h) <;> (try rw [Int.neg_mul] at h) <;> rw [eA, eB] at h
  · have := own_mag_mono h1 h2 ex.symm ey.symm (by omega)
    omega
  · have a0 : A * D2 = 0 := by omega
    have b0 : B * D1 = 0 := by omega
    have a1 : A = 0 := by rcases Nat.mul_eq_zero.mp a0 with q | q <;> omega
    have b1 : B = 0 := by rcases Nat.mul_eq_zero.mp b0 with q | q <;> omega
    subst a1 b1
    have u1 : roundRatio b64 false 0 D1 b64.qmin = .fin false 0 b64.qmin := by simp [roundRatio]
    have u2 : roundRatio b64 true 0 D2 b64.qmin = .fin true 0 b64.qmin := by simp [roundRatio]
    rw [u1] at ex
    rw [u2] at ey
    cases ex
    cases ey
    simp [zmag, inUnits]
  · omega
  · have := own_mag_mono h2 h1 ey.symm ex.symm (by omega)
    omega
/-- the four operations and the conversions are roundings -/
theorem own_R_of {x : Datum} (h : own_F x) : own_R (own_Z x) 1 x := by
  obtain ⟨hf, s, c, q, rfl⟩ := h
  refine ⟨Nat.one_pos, s, ?_, ?_⟩
  · show signed s (signed s _).natAbs = signed s _
    rw [natAbs_signed]
  · have e1 : (own_Z (.fin s c q)).natAbs = inUnits c q b64.qmin := natAbs_signed _ _
    rw [e1]
    have r := round_of_fits good_b64 hf
    have cg := roundRatio_congr (f := b64) (s := s) (A := c) (B := 1) (A' := inUnits c q b64.qmin) (B' := 1) (e := q) (e' := b64.qmin) Nat.one_pos Nat.one_pos (by
      have hq := hf.2.1
      unfold inUnits
      rw [show (b64.qmin - q).toNat = 0 by omega]
      simp)
    rw [← cg]
    exact r.symm
theorem own_round_R {s : Bool} {n : Nat} {e : Int} (he : b64.qmin ≤ e) : own_R (signed s (inUnits n e b64.qmin)) 1 (round b64 (.fin s n e)) := by
  refine ⟨Nat.one_pos, s, ?_, ?_⟩
  · rw [natAbs_signed]
  · rw [natAbs_signed]
    refine roundRatio_congr (f := b64) Nat.one_pos Nat.one_pos ?_
    unfold inUnits
    rw [show (b64.qmin - e).toNat = 0 by omega]
    simp
theorem own_add {a b : UInt64} (ha : own_F (val64 a)) (hb : own_F (val64 b)) : own_R (own_Z (val64 a) + own_Z (val64 b)) 1 (val64 (FP.dadd a b)) := by
  obtain ⟨fa, s, c, q, ea⟩ := ha
  obtain ⟨fb, t, d, r, eb⟩ := hb
  show own_R _ 1 (val64 (dadd a b))
  rw [val64_dadd, ea, eb]
  rw [ea] at fa
  rw [eb] at fb
  obtain ⟨sg, n, e, h1, h2, h3⟩ := sum_units fa fb
  rw [h1, ← h3]
  exact own_round_R h2
theorem own_mul {a b : UInt64} (ha : own_F (val64 a)) (hb : own_F (val64 b)) : own_R (own_Z (val64 a) * own_Z (val64 b)) own_P (val64 (FP.dmul a b)) := by
  obtain ⟨fa, s, c, q, ea⟩ := ha
  obtain ⟨fb, t, d, r, eb⟩ := hb
  show own_R _ _ (val64 (dmul a b))
  rw [val64_dmul, ea, eb]
  rw [ea] at fa
  rw [eb] at fb
  obtain ⟨h1, h2, h3⟩ := product_units fa fb
  rw [h1]
  have e1 : own_Z (.fin s c q) * own_Z (.fin t d r) = signed (s != t) (zmag b64 (.fin s c q) * zmag b64 (.fin t d r)) := (signed_xor _ _ _ _).symm
  rw [e1]
  refine ⟨own_P_pos, s != t, ?_, ?_⟩
  · rw [natAbs_signed]
  · rw [natAbs_signed, ← h3]
    refine roundRatio_congr (f := b64) Nat.one_pos own_P_pos ?_
    have g1 := fa.2.1
    have g2 := fb.2.1
    have g0 := qmin_neg good_b64
    unfold inUnits own_P
    generalize b64.qmin = Q at *
    rw [Nat.mul_one]
    simp only [Nat.mul_assoc, ← Nat.pow_add]
    congr 3
    omega
theorem own_div {a b : UInt64} (ha : own_F (val64 a)) (hb : own_F (val64 b)) (hz : 0 < own_Z (val64 b)) : own_R (own_Z (val64 a) * (own_P : Int)) (own_Z (val64 b)).natAbs (val64 (FP.ddiv a b)) := by
  obtain ⟨fa, s, c, q, ea⟩ := ha
  obtain ⟨fb, t, d, r, eb⟩ := hb
  show own_R _ _ (val64 (ddiv a b))
  rw [val64_ddiv, ea, eb]
  rw [ea] at fa
  rw [eb] at fb hz
  have hd : d ≠ 0 := by
    rintro rfl
    have : own_Z (.fin t 0 r) = 0 := by show signed t (inUnits 0 r _) = 0; unfold inUnits; rw [Nat.zero_mul]; exact signed_zero t
    omega
  have ht : t = false := by
    cases t
    · rfl
    · exfalso
      have : own_Z (.fin true d r) = -((inUnits d r b64.qmin : Nat) : Int) := rfl
      omega
  subst ht
  have zb : (own_Z (.fin false d r)).natAbs = inUnits d r b64.qmin := natAbs_signed _ _
  have zp : 0 < inUnits d r b64.qmin := by omega
  rw [zb]
  have e1 : own_Z (.fin s c q) * (own_P : Int) = signed s (inUnits c q b64.qmin * own_P) := (signed_mul _ _ _).symm
  rw [e1]
  refine ⟨zp, s, ?_, ?_⟩
  · rw [natAbs_signed]
  · rw [natAbs_signed]
    show (if d = 0 then _ else roundRatio b64 (s != false) c d (q - r)) = _
    rw [if_neg hd, Bool.bne_false]
    refine roundRatio_congr (f := b64) (Nat.pos_of_ne_zero hd) zp ?_
    have g1 := fa.2.1
    have g2 := fb.2.1
    have g0 := qmin_neg good_b64
    unfold inUnits own_P
    generalize b64.qmin = Q at *
    have w : c * (d * 2 ^ (r - Q).toNat) * 2 ^ (q - r - Q).toNat = c * d * 2 ^ ((r - Q).toNat + (q - r - Q).toNat) := by rw [Nat.pow_add]; ac_rfl
    have v : c * 2 ^ (q - Q).toNat * 2 ^ (-Q).toNat * d * 2 ^ (Q - (q - r)).toNat = c * d * 2 ^ ((q - Q).toNat + (-Q).toNat + (Q - (q - r)).toNat) := by rw [Nat.pow_add, Nat.pow_add]; ac_rfl
    rw [w, v]
    congr 2
    omega
theorem own_ofInt (i : Int) : own_R (i * (own_P : Int)) 1 (round b64 (ofInt i)) := by
  have h : i * (own_P : Int) = signed (decide (i < 0)) (inUnits i.natAbs 0 b64.qmin) := by
    unfold inUnits own_P
    rw [signed_mul]
    have g : signed (decide (i < 0)) i.natAbs = i := by unfold signed; by_cases q : i < 0 <;> simp [q] <;> omega
    rw [g, show (0 - b64.qmin) = -b64.qmin by omega]
  rw [h]
  exact own_round_R (by have := qmin_neg good_b64; omega)
theorem own_l2d (v : Int64) : own_R (v.toInt * (own_P : Int)) 1 (val64 (FP.l2d v)) := by
  show own_R _ 1 (val64 (l2d v)); rw [val64_l2d]; exact own_ofInt _
theorem own_i2d (v : Int32) : own_R (v.toInt * (own_P : Int)) 1 (val64 (FP.i2d v)) := by
  show own_R _ 1 (val64 (i2d v)); rw [val64_i2d]; exact own_ofInt _
/-- a number of at most 53 digits is a double -/
theorem own_rep (s : Bool) {c : Nat} {q : Int} (hc : c < 2 ^ 53) (h1 : b64.qmin ≤ q) (h2 : q ≤ b64.qmax) : ∃ V, own_F V ∧ own_Z V = signed s (inUnits c q b64.qmin) := by
  obtain ⟨c', q', h3, h4⟩ := round_exact good_b64 s (c := c) hc h1 h2
  refine ⟨round b64 (.fin s c q), ⟨round_fits good_b64 _, s, c', q', h3⟩, ?_⟩
  rw [h3, ← h4]
  rfl
theorem own_R_eq {N : Int} {D : Nat} {x V : Datum} (h : own_R N D x) (hV : own_F V) (he : N = own_Z V * (D : Int)) : own_Z x = own_Z V :=
  Int.le_antisymm (own_R_le h hV.1 hV.ne (by omega)) (own_R_ge h hV.1 hV.ne (by omega))
theorem own_cmpZ {a b : UInt64} (ha : val64 a ≠ .nan) (hb : val64 b ≠ .nan) : FP.dcmp a b = some (compare (own_Z (val64 a)) (own_Z (val64 b))) :=
  order_zval good_b64 (val64_fits a) (val64_fits b) ha hb
/-- finite, by its bits -/
theorem own_F_of {a : UInt64} (h : Jvm.Free.Fl.Fin64 a) : own_F (val64 a) := ⟨val64_fits a, Jvm.Free.Fl.fin64_core.mp h⟩
theorem own_nn {a : UInt64} (h : val64 a ≠ .nan) : Jvm.Free.Fl.NoNaN64 a := by
  rw [Jvm.Free.Fl.noNaN64_no, notNaN_iff]; exact h
/-- a rounding that stays below a finite number in size is finite -/
theorem own_fin {N : Int} {D : Nat} {a : UInt64} {V : Datum} (h : own_R N D (val64 a)) (hV : own_F V) (h1 : -own_Z V * (D : Int) ≤ N) (h2 : N ≤ own_Z V * (D : Int)) : own_F (val64 a) := by
  refine ⟨val64_fits a, ?_⟩
  have l := own_R_le h hV.1 hV.ne h2
  have g := own_R_ge h (V := negate V) (negate_fits hV.1) (negate_ne_nan hV.ne) (by unfold own_Z at *; rw [zval_negate]; exact h1)
  have n := h.ne
  have lt : own_Z V < (b64.tails * 2 ^ (b64.exps - 2) : Nat) ∧ -own_Z V < (b64.tails * 2 ^ (b64.exps - 2) : Nat) := by
    obtain ⟨hf, s, c, q, rfl⟩ := hV
    have := zmag_lt_top good_b64 hf
    unfold own_Z zval
    have this : inUnits c q b64.qmin < b64.tails * 2 ^ (b64.exps - 2) := this
    show signed s (inUnits c q b64.qmin) < _ ∧ -signed s (inUnits c q b64.qmin) < _
    generalize inUnits c q b64.qmin = z at *
    generalize b64.tails * 2 ^ (b64.exps - 2) = t at *
    cases s <;> simp only [signed, if_true, Bool.false_eq_true, if_false] <;> omega
  unfold own_Z at *
  rw [zval_negate] at g
  cases hx : val64 a with
  | nan => exact absurd hx n
  | fin s c q => exact ⟨s, c, q, rfl⟩
  | inf s =>
    exfalso
    rw [hx] at l g
    have e : zval b64 (.inf s) = signed s (b64.tails * 2 ^ (b64.exps - 2)) := rfl
    rw [e] at l g
    generalize b64.tails * 2 ^ (b64.exps - 2) = t at *
    cases s <;> simp only [signed, if_true, Bool.false_eq_true, if_false] at * <;> omega
end OwnFP
section OwnU
open FP.Core
/-- 2^k in units of the least double -/
def own_u (k : Int) : Nat := 2 ^ (k - b64.qmin).toNat
theorem own_u_pos (k : Int) : 0 < own_u k := Nat.two_pow_pos _
theorem own_u_mul {k j : Int} {n : Nat} (h1 : b64.qmin ≤ j) (h2 : k = j + n) : own_u k = own_u j * 2 ^ n := by
  unfold own_u; rw [← Nat.pow_add]; congr 1; omega
theorem own_uI {k j : Int} {n : Nat} {c : Int} (h1 : b64.qmin ≤ j) (h2 : k = j + n) (hc : ((2 ^ n : Nat) : Int) = c) : (own_u k : Int) = c * (own_u j : Int) := by
  rw [own_u_mul h1 h2, Int.natCast_mul, hc, Int.mul_comm]
theorem own_P_u : own_P = own_u 0 := by unfold own_P own_u; rw [show (0 : Int) - b64.qmin = -b64.qmin by omega]
theorem own_sgn (i : Int) : signed (decide (i < 0)) i.natAbs = i := by unfold signed; by_cases q : i < 0 <;> simp [q] <;> omega
/-- i * 2^q is a double, for i of at most 53 digits -/
theorem own_repI {i : Int} (h : i.natAbs < 2 ^ 53) {q : Int} (h1 : b64.qmin ≤ q) (h2 : q ≤ b64.qmax) : ∃ V, own_F V ∧ own_Z V = i * (own_u q : Int) := by
  obtain ⟨V, hV, hz⟩ := own_rep (decide (i < 0)) (c := i.natAbs) (q := q) h h1 h2
  refine ⟨V, hV, ?_⟩
  rw [hz]
  show signed _ (i.natAbs * own_u q) = _
  rw [signed_mul, own_sgn]
theorem own_valZ {a : UInt64} {c : Nat} {q : Int} (h : val64 a = .fin false c q) : own_Z (val64 a) = (c : Int) * (own_u q : Int) := by
  rw [h]
  show signed false (c * own_u q) = _
  rw [signed_mul]; rfl
theorem own_i2dZ (v : Int32) : own_Z (val64 (FP.i2d v)) = v.toInt * (own_P : Int) := by
  have r := rng32 v
  obtain ⟨V, hV, hz⟩ := own_repI (i := v.toInt) (by omega) (q := 0) (by decide) (by decide)
  rw [← own_P_u] at hz
  rw [own_R_eq (own_i2d v) hV (by rw [hz]; simp), hz]
theorem own_l2dZ {v : Int64} (h : v.toInt.natAbs < 2 ^ 53) : own_Z (val64 (FP.l2d v)) = v.toInt * (own_P : Int) := by
  obtain ⟨V, hV, hz⟩ := own_repI (i := v.toInt) h (q := 0) (by decide) (by decide)
  rw [← own_P_u] at hz
  rw [own_R_eq (own_l2d v) hV (by rw [hz]; simp), hz]
theorem own_i2dF (v : Int32) : own_F (val64 (FP.i2d v)) := own_F_of (Jvm.Free.Fl.i2d_fin v)
theorem own_l2dF (v : Int64) : own_F (val64 (FP.l2d v)) := own_F_of (Jvm.Free.Fl.l2d_fin v)
/-- the comparisons, by the values -/
theorem own_cle {a b : UInt64} (ha : val64 a ≠ .nan) (hb : val64 b ≠ .nan) (h : own_Z (val64 a) ≤ own_Z (val64 b)) (o : CmpOp) : ¬ (0 : Int32) < cmpValue (FP.dcmp a b) o := by
  rw [own_cmpZ ha hb]
  rcases Int.lt_or_eq_of_le h with q | q
  · rw [show compare (own_Z (val64 a)) (own_Z (val64 b)) = .lt from by simp [compare, compareOfLessAndEq, q]]; cases o <;> decide
  · rw [q, compare_self_int]; cases o <;> decide
theorem own_cge {a b : UInt64} (ha : val64 a ≠ .nan) (hb : val64 b ≠ .nan) (h : own_Z (val64 b) ≤ own_Z (val64 a)) (o : CmpOp) : ¬ cmpValue (FP.dcmp a b) o < (0 : Int32) := by
  rw [own_cmpZ ha hb]
  rcases Int.lt_or_eq_of_le h with q | q
  · rw [show compare (own_Z (val64 a)) (own_Z (val64 b)) = .gt from by simp [compare, compareOfLessAndEq, show ¬ own_Z (val64 a) < own_Z (val64 b) by omega, show ¬ own_Z (val64 a) = own_Z (val64 b) by omega]]; cases o <;> decide
  · rw [q, compare_self_int]; cases o <;> decide
theorem own_ceq {a b : UInt64} (ha : val64 a ≠ .nan) (hb : val64 b ≠ .nan) (h : own_Z (val64 a) = own_Z (val64 b)) (o : CmpOp) : cmpValue (FP.dcmp a b) o = 0 := by
  rw [own_cmpZ ha hb, h, compare_self_int]; cases o <;> rfl
end OwnU
section OwnDiv
open FP.Core
theorem own_divN {a b : UInt64} (ha : own_F (val64 a)) (hb : own_F (val64 b)) (hz : own_Z (val64 b) < 0) : own_R (-(own_Z (val64 a)) * (own_P : Int)) (own_Z (val64 b)).natAbs (val64 (FP.ddiv a b)) := by
  obtain ⟨fa, s, c, q, ea⟩ := ha
  obtain ⟨fb, t, d, r, eb⟩ := hb
  show own_R _ _ (val64 (ddiv a b))
  rw [val64_ddiv, ea, eb]
  rw [ea] at fa
  rw [eb] at fb hz
  have hd : d ≠ 0 := by
    rintro rfl
    have : own_Z (.fin t 0 r) = 0 := by show signed t (inUnits 0 r _) = 0; unfold inUnits; rw [Nat.zero_mul]; exact signed_zero t
    omega
  have ht : t = true := by
    cases t
    · exfalso
      have : own_Z (.fin false d r) = ((inUnits d r b64.qmin : Nat) : Int) := rfl
      omega
    · rfl
  subst ht
  have zb : (own_Z (.fin true d r)).natAbs = inUnits d r b64.qmin := natAbs_signed _ _
  have zp : 0 < inUnits d r b64.qmin := by omega
  rw [zb]
  have e1 : -(own_Z (.fin s c q)) * (own_P : Int) = signed (!s) (inUnits c q b64.qmin * own_P) := by
    rw [signed_mul]
    congr 1
    show -(signed s (inUnits c q b64.qmin)) = _
    cases s <;> simp [signed]
  rw [e1]
  refine ⟨zp, !s, ?_, ?_⟩
  · rw [natAbs_signed]
  · rw [natAbs_signed]
    show (if d = 0 then _ else roundRatio b64 (s != true) c d (q - r)) = _
    rw [if_neg hd, Bool.bne_true]
    refine roundRatio_congr (f := b64) (Nat.pos_of_ne_zero hd) zp ?_
    have g1 := fa.2.1
    have g2 := fb.2.1
    have g0 := qmin_neg good_b64
    unfold inUnits own_P
    generalize b64.qmin = Q at *
    have w : c * (d * 2 ^ (r - Q).toNat) * 2 ^ (q - r - Q).toNat = c * d * 2 ^ ((r - Q).toNat + (q - r - Q).toNat) := by rw [Nat.pow_add]; ac_rfl
    have v : c * 2 ^ (q - Q).toNat * 2 ^ (-Q).toNat * d * 2 ^ (Q - (q - r)).toNat = c * d * 2 ^ ((q - Q).toNat + (-Q).toNat + (Q - (q - r)).toNat) := by rw [Nat.pow_add, Nat.pow_add]; ac_rfl
    rw [w, v]
    congr 2
    omega
/-- a number of no smaller size, not below nought -/
theorem own_absV {x : Datum} (h : own_F x) : ∃ V, own_F V ∧ 0 ≤ own_Z V ∧ own_Z x ≤ own_Z V ∧ -own_Z V ≤ own_Z x := by
  rcases Int.lt_or_le (own_Z x) 0 with q | q
  · obtain ⟨hf, s, c, r, rfl⟩ := h
    refine ⟨negate (.fin s c r), ⟨negate_fits hf, !s, c, r, rfl⟩, ?_⟩
    have e : own_Z (negate (.fin s c r)) = -own_Z (.fin s c r) := zval_negate _ _
    rw [e]; omega
  · exact ⟨x, h, q, Int.le_refl _, by omega⟩
/-- a quotient by at least one is finite -/
theorem own_divF {a b : UInt64} (ha : own_F (val64 a)) (hb : own_F (val64 b)) (hz : (own_P : Int) ≤ own_Z (val64 b) ∨ own_Z (val64 b) ≤ -(own_P : Int)) : own_F (val64 (FP.ddiv a b)) := by
  have pp : (0 : Int) < (own_P : Int) := by have := own_P_pos; omega
  obtain ⟨V, hV, v0, v1, v2⟩ := own_absV ha
  have key : ∀ N : Int, (-own_Z V ≤ N ∧ N ≤ own_Z V) → -own_Z V * ((own_Z (val64 b)).natAbs : Int) ≤ N * (own_P : Int) ∧ N * (own_P : Int) ≤ own_Z V * ((own_Z (val64 b)).natAbs : Int) := by
    intro N hN
    have nb : (own_P : Int) ≤ ((own_Z (val64 b)).natAbs : Int) := by omega
    have k1 : own_Z V * (own_P : Int) ≤ own_Z V * ((own_Z (val64 b)).natAbs : Int) := Int.mul_le_mul_of_nonneg_left nb v0
    have k2 : N * (own_P : Int) ≤ own_Z V * (own_P : Int) := Int.mul_le_mul_of_nonneg_right hN.2 (by omega)
    have k3 : -own_Z V * (own_P : Int) ≤ N * (own_P : Int) := Int.mul_le_mul_of_nonneg_right hN.1 (by omega)
    rw [Int.neg_mul] at k3 ⊢
    omega
  rcases hz with hz | hz
  · have k := key (own_Z (val64 a)) ⟨v2, v1⟩
    exact own_fin (own_div ha hb (by omega)) hV k.1 k.2
  · have k := key (-(own_Z (val64 a))) ⟨by omega, by omega⟩
    exact own_fin (own_divN ha hb (by omega)) hV k.1 k.2
theorem own_l2dM {t u : Int64} (h : t.toInt ≤ u.toInt) : own_Z (val64 (FP.l2d t)) ≤ own_Z (val64 (FP.l2d u)) := by
  refine own_R_mono (own_l2d t) (own_l2d u) (own_l2dF t).2 (own_l2dF u).2 ?_
  exact Int.mul_le_mul_of_nonneg_right (Int.mul_le_mul_of_nonneg_right h (by omega)) (by omega)
/-- dividing keeps or turns the order -/
theorem own_divM {a c b : UInt64} (ha : own_F (val64 a)) (hc : own_F (val64 c)) (hb : own_F (val64 b)) (hz : (own_P : Int) ≤ own_Z (val64 b)) (h : own_Z (val64 a) ≤ own_Z (val64 c)) : own_Z (val64 (FP.ddiv a b)) ≤ own_Z (val64 (FP.ddiv c b)) := by
  have pp : (0 : Int) < (own_P : Int) := by have := own_P_pos; omega
  refine own_R_mono (own_div ha hb (by omega)) (own_div hc hb (by omega)) (own_divF ha hb (Or.inl hz)).2 (own_divF hc hb (Or.inl hz)).2 ?_
  exact Int.mul_le_mul_of_nonneg_right (Int.mul_le_mul_of_nonneg_right h (by omega)) (by omega)
theorem own_divMN {a c b : UInt64} (ha : own_F (val64 a)) (hc : own_F (val64 c)) (hb : own_F (val64 b)) (hz : own_Z (val64 b) ≤ -(own_P : Int)) (h : own_Z (val64 a) ≤ own_Z (val64 c)) : own_Z (val64 (FP.ddiv c b)) ≤ own_Z (val64 (FP.ddiv a b)) := by
  have pp : (0 : Int) < (own_P : Int) := by have := own_P_pos; omega
  refine own_R_mono (own_divN hc hb (by omega)) (own_divN ha hb (by omega)) (own_divF hc hb (Or.inr hz)).2 (own_divF ha hb (Or.inr hz)).2 ?_
  exact Int.mul_le_mul_of_nonneg_right (Int.mul_le_mul_of_nonneg_right (by omega) (by omega)) (by omega)
/-- a quotient that comes out -/
theorem own_divE {a b : UInt64} {V : Datum} (ha : own_F (val64 a)) (hb : own_F (val64 b)) (hz : (own_P : Int) ≤ own_Z (val64 b) ∨ own_Z (val64 b) ≤ -(own_P : Int)) (hV : own_F V) (h : own_Z (val64 a) * (own_P : Int) = own_Z V * own_Z (val64 b)) : own_Z (val64 (FP.ddiv a b)) = own_Z V := by
  have pp : (0 : Int) < (own_P : Int) := by have := own_P_pos; omega
  rcases hz with hz | hz
  · refine own_R_eq (own_div ha hb (by omega)) hV ?_
    rw [show ((own_Z (val64 b)).natAbs : Int) = own_Z (val64 b) by omega]; exact h
  · refine own_R_eq (own_divN ha hb (by omega)) hV ?_
    rw [show ((own_Z (val64 b)).natAbs : Int) = -own_Z (val64 b) by omega, Int.neg_mul, Int.mul_neg, h]
end OwnDiv
section OwnAvg
open FP.Core
abbrev own_avg (t : Int64) (d : Int32) : UInt64 := FP.ddiv (FP.l2d t) (FP.i2d d)
theorem own_dZ {d : Int32} (h : ¬ d = 0) : (own_P : Int) ≤ own_Z (val64 (FP.i2d d)) ∨ own_Z (val64 (FP.i2d d)) ≤ -(own_P : Int) := by
  have hd : d.toInt ≠ 0 := fun q => h (Int32.toInt_inj.mp q)
  rw [own_i2dZ]
  rcases Int.lt_or_lt_of_ne hd with q | q
  · right
    have := Int.mul_le_mul_of_nonneg_right (show d.toInt ≤ -1 by omega) (show (0 : Int) ≤ (own_P : Int) by omega)
    omega
  · left
    have := Int.mul_le_mul_of_nonneg_right (show 1 ≤ d.toInt by omega) (show (0 : Int) ≤ (own_P : Int) by omega)
    omega
theorem own_dP {d : Int32} (h : (0 : Int32) < d) : (own_P : Int) ≤ own_Z (val64 (FP.i2d d)) := by
  rw [Int32.lt_iff_toInt_lt] at h
  have e0 : (0 : Int32).toInt = 0 := rfl
  rw [own_i2dZ]
  have := Int.mul_le_mul_of_nonneg_right (show 1 ≤ d.toInt by omega) (show (0 : Int) ≤ (own_P : Int) by omega)
  omega
theorem own_dM {d : Int32} (h0 : ¬ d = 0) (h : ¬ (0 : Int32) < d) : own_Z (val64 (FP.i2d d)) ≤ -(own_P : Int) := by
  rw [Int32.lt_iff_toInt_lt] at h
  have e0 : (0 : Int32).toInt = 0 := rfl
  have hd : d.toInt ≠ 0 := fun q => h0 (Int32.toInt_inj.mp q)
  rw [own_i2dZ]
  have := Int.mul_le_mul_of_nonneg_right (show d.toInt ≤ -1 by omega) (show (0 : Int) ≤ (own_P : Int) by omega)
  omega
theorem own_avF (t : Int64) {d : Int32} (h : ¬ d = 0) : own_F (val64 (own_avg t d)) := own_divF (own_l2dF t) (own_i2dF d) (own_dZ h)
theorem own_up {t u : Int64} {d : Int32} (hd : (0 : Int32) < d) (h : t.toInt ≤ u.toInt) : own_Z (val64 (own_avg t d)) ≤ own_Z (val64 (own_avg u d)) := own_divM (own_l2dF t) (own_l2dF u) (own_i2dF d) (own_dP hd) (own_l2dM h)
theorem own_dn {t u : Int64} {d : Int32} (h0 : ¬ d = 0) (hd : ¬ (0 : Int32) < d) (h : t.toInt ≤ u.toInt) : own_Z (val64 (own_avg u d)) ≤ own_Z (val64 (own_avg t d)) := own_divMN (own_l2dF t) (own_l2dF u) (own_i2dF d) (own_dM h0 hd) (own_l2dM h)
theorem own_one (t : Int64) : own_Z (val64 (own_avg t 1)) = own_Z (val64 (FP.l2d t)) := by
  refine own_divE (own_l2dF t) (own_i2dF 1) (own_dZ (by decide)) (own_l2dF t) ?_
  rw [own_i2dZ]
  have e : (1 : Int32).toInt = 1 := rfl
  rw [e, Int.one_mul]
abbrev own_H : UInt64 := 4602678819172646912
theorem own_Hv : val64 own_H = .fin false 4503599627370496 (-53) := by decide +kernel
theorem own_HF : own_F (val64 own_H) := ⟨val64_fits _, _, _, _, own_Hv⟩
/-- a half -/
def own_h : Int := (own_u (-1) : Int)
theorem own_h_pos : 0 < own_h := by have := own_u_pos (-1); unfold own_h; omega
theorem own_hP : (own_P : Int) = 2 * own_h := by rw [own_P_u, own_uI (k := 0) (j := -1) (n := 1) (c := 2) (by decide) (by decide) (by rfl)]; rfl
theorem own_HZ : own_Z (val64 own_H) = own_h := by
  rw [own_valZ own_Hv]; unfold own_h
  rw [own_uI (k := -1) (j := -53) (n := 52) (c := 4503599627370496) (by decide) (by decide) (by rfl)]; omega
theorem own_small (q : Int32) : -2097152 ≤ (q >>> ((10 : Int32) &&& 31)).toInt ∧ (q >>> ((10 : Int32) &&& 31)).toInt ≤ 2097151 := by
  have h := c_ishr q (10 : Int32) 10 (by decide)
  have r := rng32 q
  rw [h]
  have : ((2 ^ 10 : Nat) : Int) = 1024 := by decide
  rw [this]; omega
/-- (2 s + 1) / 2 is s + 0.5 -/
theorem own_half {s : Int32} (hs : -2097152 ≤ s.toInt ∧ s.toInt ≤ 2097151) :
    own_Z (val64 (own_avg (((2 : Int64) * s.toInt64) + (1 : Int64)) 2)) = own_Z (val64 (FP.dadd (FP.i2d s) own_H)) ∧ own_R (own_Z (val64 (FP.i2d s)) + own_h) 1 (val64 (FP.dadd (FP.i2d s) own_H)) := by
  have e1 : (((2 : Int64) * s.toInt64) + (1 : Int64)).toInt = 2 * s.toInt + 1 := by
    have c := c_lmul (2 : Int64) s.toInt64
    have c' := c_ladd ((2 : Int64) * s.toInt64) (1 : Int64)
    have r := rng64 ((2 : Int64) * s.toInt64)
    have r' := rng64 (((2 : Int64) * s.toInt64) + (1 : Int64))
    have k2 : (2 : Int64).toInt = 2 := rfl
    have k1 : (1 : Int64).toInt = 1 := rfl
    have ks := c_i2l s
    rw [k2, ks] at c
    rw [k1] at c'
    omega
  obtain ⟨V, hV, hz⟩ := own_repI (i := 2 * s.toInt + 1) (by omega) (q := -1) (by decide) (by decide)
  have hz' : own_Z V = (2 * s.toInt + 1) * own_h := hz
  have hs1 := own_add (own_i2dF s) own_HF
  rw [own_HZ] at hs1
  refine ⟨?_, hs1⟩
  have z1 : own_Z (val64 (own_avg (((2 : Int64) * s.toInt64) + (1 : Int64)) 2)) = own_Z V := by
    refine own_divE (own_l2dF _) (own_i2dF 2) (own_dZ (by decide)) hV ?_
    have k2 : (2 : Int32).toInt = 2 := rfl
    rw [own_l2dZ (by rw [e1]; omega), e1, own_i2dZ, k2, hz', ← Int.mul_assoc]
    congr 1
    rw [own_hP, Int.mul_comm 2 own_h, Int.mul_assoc]
  rw [z1, own_R_eq hs1 hV (by
    rw [own_i2dZ, hz', own_hP, Int.add_mul, ← Int.mul_assoc]
    have : s.toInt * 2 * own_h = 2 * s.toInt * own_h := by congr 1; omega
    rw [this]; simp)]
/-- s * d / d is s -/
theorem own_whole {s d : Int32} (hs : -2097152 ≤ s.toInt ∧ s.toInt ≤ 2097151) (hd : ¬ d = 0) : own_Z (val64 (own_avg (s.toInt64 * d.toInt64) d)) = own_Z (val64 (FP.i2d s)) := by
  have r := rng32 d
  have b : (s.toInt * d.toInt).natAbs ≤ 2097152 * 2147483648 := by
    rw [Int.natAbs_mul]; exact Nat.mul_le_mul (by omega) (by omega)
  have e1 : (s.toInt64 * d.toInt64).toInt = s.toInt * d.toInt := by
    have c := c_lmul s.toInt64 d.toInt64
    have r' := rng64 (s.toInt64 * d.toInt64)
    rw [c_i2l s, c_i2l d] at c
    generalize (s.toInt64 * d.toInt64).toInt = u at *
    generalize s.toInt * d.toInt = v at *
    omega
  refine own_divE (own_l2dF _) (own_i2dF d) (own_dZ hd) (own_i2dF s) ?_
  rw [own_l2dZ (by rw [e1]; omega), e1, own_i2dZ, own_i2dZ]
  simp only [Int.mul_assoc, Int.mul_comm, Int.mul_left_comm]
theorem own_zero : Jvm.Free.Fl.NoNaN64 (0 : UInt64) := by unfold Jvm.Free.Fl.NoNaN64; decide
end OwnAvg
theorem own_pn_0 : plainName "java/lang/Record" = true := by first | (simp [plainName, overriddenIn]; done) | decide +kernel
theorem d2_0 : decode jdk_30_method_1_code 0 = .ok (.aload_n 0, 1) := by decide +kernel
theorem d2_1 : decode jdk_30_method_1_code 1 = .ok (.invokespecial 1, 3) := by decide +kernel
theorem d2_4 : decode jdk_30_method_1_code 4 = .ok (.return_, 1) := by decide +kernel
theorem ef_rec (m : MethodId) (a1 : Addr) : entryFrame m #[(.ref a1)] 1 = mkF m 0 #[.val (.ref a1)] [] := by first | (simp [entryFrame, mkF, argsToLocals, Value.category]; done) | rfl
def Qrec (Z : State) (a1 : Addr) (h0 : Heap) (n0 : Nat) (v : Option Value) (h : Heap) (L : List Loc) : Prop := Fr n0 L ∧ h = h0 ∧ (v = none)
set_option maxRecDepth 65536 in
set_option maxHeartbeats 40000000 in
theorem rmRec (l : Launch) (Z : State) (a0 : Array Value) (hw : ∀ d ∈ tables_1, d.before a0 Z = true) (ws : List Jvm.Cond) (a1 : Addr) (h0 : Heap) (n0 : Nat) (Z0 : n0 ≤ h0.size)  :
    MetFree l (⟨"java/lang/Record", "<init>", "()V"⟩ : MethodName) (head1 (Jvm.Cond.code (⟨"java/lang/Record", "<init>", "()V"⟩ : MethodName) jdk_30_method_1_code 1 none :: ws) ({ frames := 1, cells := 0, slots := 0, locals := 12 } : Room)) (fun a U => a = #[(.ref a1)] ∧ Z.Warmed39 U.vm ∧ U.heap = h0) (fun _ _ _ _ _ => True) (fun _ U o U' => ∃ v L, o = .returned v ∧ Qrec Z a1 h0 n0 v U'.heap L ∧ FrameEnd U o U' L ({ frames := 1, cells := 0, slots := 0, locals := 12 } : Room).cells ({ frames := 1, cells := 0, slots := 0, locals := 12 } : Room).slots) := by
  refine MetFree.of_bodySF (plainFor_of_name own_pn_0) hisR ?_
  intro p e s m args below meth c s₁ Bd hml0 hP hK
  obtain ⟨rfl, hZ, hh⟩ := hP
  have hx := Bd.exec
  have hby := Bd.bytes
  have hml : c.maxLocals = 1 := hml0
  have hown : s.vm.findClass "java/lang/Record" = some m.cls := findClass_of_methodNamed Bd.named
  have hnm := (name_of_methodNamed Bd.named Bd.method).1
  have X0 : Stand p l e ({ frames := 1, cells := 0, slots := 0, locals := 12 } : Room) s m #[(.ref a1)] below meth c s₁ [] 0 0 := Stand.of_body Bd
  have e0 : s₁.heap = h0 := by rw [← hh, Bd.state]; rfl
  have N0 := Fr.nil n0
  have pre0 : ∀ t, Steps p.tables e below (s₁.setTop (mkF m 0 #[.val (.ref a1)] [])) t → Steps p.tables e below (s₁.setTop (entryFrame m #[(.ref a1)] 1)) t := fun t k => castTop (ef_rec m a1) k
  obtain ⟨T1, X1, e1, st1⟩ := initO X0 hx hZ hown (own_k hw 11 rfl) (own_k hw 12 rfl) (own_k hw 13 rfl) e0 (g := (mkF m 1 #[.val (.ref a1)] [(.ref a1)])) rfl (by rw [hml]; rfl) rfl (hb hby d2_1) (by decide) (W := 0) (by show 2 * 0 + _ ≤ _; exact Nat.le_of_eq rfl) (by decide)
  obtain ⟨fs, hr, hrun, hended, hW, hsame⟩ := X1.leave (v := none) (fun _ => rfl)
  refine ⟨_, _, pre0 _ ?_, hrun, hended, _, _, rfl, ?_, ⟨_, rfl⟩, hW, hsame.mono (by decide) (by decide)⟩
  · show Steps p.tables e below (s₁.setTop (mkF m 0 #[.val (.ref a1)] [])) _
    refine XS.aloadN X0.here hx rfl (hb hby d2_0) rfl rfl ?_
    show Steps p.tables e below (s₁.setTop (mkF m 1 #[.val (.ref a1)] [(.ref a1)])) _
    refine st1 _ ?_
    show Steps p.tables e below (T1.setTop (mkF m 4 #[.val (.ref a1)] [])) _
    exact X1.returnOut hx Bd.returns (hb hby d2_4) hr
  · show Qrec Z a1 h0 n0 _ T1.heap _
    rw [e1]
    exact ⟨N0, rfl, rfl⟩
theorem own_pn_1 : plainName "com/example/herault/herault/index/IndexStatistics" = true := by first | (simp [plainName, overriddenIn]; done) | decide +kernel
theorem d1_0 : decode prog_56_method_1_code 0 = .ok (.aload_n 0, 1) := by decide +kernel
theorem d1_1 : decode prog_56_method_1_code 1 = .ok (.invokespecial 1, 3) := by decide +kernel
theorem own_pd_0 : parseMethodDescriptor "()V" = some ⟨[], none⟩ := by decide +kernel
theorem d1_4 : decode prog_56_method_1_code 4 = .ok (.aload_n 0, 1) := by decide +kernel
theorem d1_5 : decode prog_56_method_1_code 5 = .ok (.iload_n 1, 1) := by decide +kernel
theorem d1_6 : decode prog_56_method_1_code 6 = .ok (.putfield 7, 3) := by decide +kernel
theorem d1_9 : decode prog_56_method_1_code 9 = .ok (.aload_n 0, 1) := by decide +kernel
theorem d1_10 : decode prog_56_method_1_code 10 = .ok (.lload_n 2, 1) := by decide +kernel
theorem d1_11 : decode prog_56_method_1_code 11 = .ok (.putfield 13, 3) := by decide +kernel
theorem d1_14 : decode prog_56_method_1_code 14 = .ok (.aload_n 0, 1) := by decide +kernel
theorem d1_15 : decode prog_56_method_1_code 15 = .ok (.iload 4, 2) := by decide +kernel
theorem d1_17 : decode prog_56_method_1_code 17 = .ok (.putfield 17, 3) := by decide +kernel
theorem d1_20 : decode prog_56_method_1_code 20 = .ok (.return_, 1) := by decide +kernel
theorem ef_ini (m : MethodId) (a1 : Addr) (q1 : Int32) (j2 : Int64) (q3 : Int32) : entryFrame m #[(.ref a1), (.int q1), (.long j2), (.int q3)] 5 = mkF m 0 #[.val (.ref a1), .val (.int q1), .val (.long j2), .second, .val (.int q3)] [] := by first | (simp [entryFrame, mkF, argsToLocals, Value.category]; done) | rfl
def Qini (Z : State) (a1 : Addr) (q1 : Int32) (j2 : Int64) (q3 : Int32) (h0 : Heap) (n0 : Nat) (v : Option Value) (h : Heap) (L : List Loc) : Prop := Fr n0 L ∧ Keep h0 h [a1] ∧ Exa Z h a1 "com/example/herault/herault/index/IndexStatistics" ∧ Fld Z h a1 "com/example/herault/herault/index/IndexStatistics" "documents" "I" (.int q1) ∧ Fld Z h a1 "com/example/herault/herault/index/IndexStatistics" "tokens" "J" (.long j2) ∧ (v = none)
set_option maxRecDepth 65536 in
set_option maxHeartbeats 40000000 in
theorem rmInit (l : Launch) (Z : State) (a0 : Array Value) (hw : ∀ d ∈ tables_1, d.before a0 Z = true) (ws : List Jvm.Cond) (a1 : Addr) (q1 : Int32) (j2 : Int64) (q3 : Int32) (h0 : Heap) (n0 : Nat) (Z0 : n0 ≤ h0.size) (hE : Exa Z h0 a1 "com/example/herault/herault/index/IndexStatistics") (hF1 : Fld Z h0 a1 "com/example/herault/herault/index/IndexStatistics" "documents" "I" (.int (0 : Int32))) (hF2 : Fld Z h0 a1 "com/example/herault/herault/index/IndexStatistics" "tokens" "J" (.long (0 : Int64))) (hF3 : Fld Z h0 a1 "com/example/herault/herault/index/IndexStatistics" "terms" "I" (.int (0 : Int32))) (hG1 : n0 ≤ a1) :
    MetFree l (⟨"com/example/herault/herault/index/IndexStatistics", "<init>", "(IJI)V"⟩ : MethodName) (head1 (Jvm.Cond.code (⟨"com/example/herault/herault/index/IndexStatistics", "<init>", "(IJI)V"⟩ : MethodName) prog_56_method_1_code 5 none :: ws) ({ frames := 2, cells := 0, slots := 0, locals := 24 } : Room)) (fun a U => a = #[(.ref a1), (.int q1), (.long j2), (.int q3)] ∧ Z.Warmed39 U.vm ∧ U.heap = h0) (fun _ _ _ _ _ => True) (fun _ U o U' => ∃ v L, o = .returned v ∧ Qini Z a1 q1 j2 q3 h0 n0 v U'.heap L ∧ FrameEnd U o U' L ({ frames := 2, cells := 0, slots := 0, locals := 24 } : Room).cells ({ frames := 2, cells := 0, slots := 0, locals := 24 } : Room).slots) := by
  refine MetFree.of_bodySF (plainFor_of_name own_pn_1) hisR ?_
  intro p e s m args below meth c s₁ Bd hml0 hP hK
  obtain ⟨rfl, hZ, hh⟩ := hP
  have hx := Bd.exec
  have hby := Bd.bytes
  have hml : c.maxLocals = 5 := hml0
  have hown : s.vm.findClass "com/example/herault/herault/index/IndexStatistics" = some m.cls := findClass_of_methodNamed Bd.named
  have hnm := (name_of_methodNamed Bd.named Bd.method).1
  have X0 : Stand p l e ({ frames := 2, cells := 0, slots := 0, locals := 24 } : Room) s m #[(.ref a1), (.int q1), (.long j2), (.int q3)] below meth c s₁ [] 0 0 := Stand.of_body Bd
  have e0 : s₁.heap = h0 := by rw [← hh, Bd.state]; rfl
  have N0 := Fr.nil n0
  have pre0 : ∀ t, Steps p.tables e below (s₁.setTop (mkF m 0 #[.val (.ref a1), .val (.int q1), .val (.long j2), .second, .val (.int q3)] [])) t → Steps p.tables e below (s₁.setTop (entryFrame m #[(.ref a1), (.int q1), (.long j2), (.int q3)] 5)) t := fun t k => castTop (ef_ini m a1 q1 j2 q3) k
  obtain ⟨_, _, ⟨T1, L1, k1, n1⟩, -, X1, ⟨Lc1, hQ1, l1, y1, z1⟩, st1⟩ := X0.specialBack hx (y := (⟨"java/lang/Record", "<init>", "()V"⟩ : MethodName)) rfl hown (mvT hZ (own_k hw 6 rfl)) (mvT hZ (own_k hw 7 rfl)) (mvT hZ (own_k hw 10 rfl)) (by decide) (backOf (W := 0) (rmRec l Z a0 hw [] a1 h0 n0 Z0 ) hZ (own_k hw 10 rfl) (own_k hw 9 rfl) (by decide) (by decide)) (g := (mkF m 1 #[.val (.ref a1), .val (.int q1), .val (.long j2), .second, .val (.int q3)] [(.ref a1)])) rfl (by rw [hml]; rfl) (Steps.refl _) (a := a1) (argsL := []) (rest := []) (lenOf own_pd_0 rfl) rfl (by show 2 * 0 + _ ≤ _; exact Nat.le_of_eq rfl) (hb hby d1_1) (fun _ _ => ⟨rfl, e0, (by decide : 0 + 0 ≤ _), (by decide : 0 + 0 ≤ _)⟩)
  dsimp only [Pt.U, Pt.locs, Pt.cells, Pt.slots] at X1 l1 y1 z1 st1 hQ1
  subst l1 y1 z1
  obtain ⟨Nq1, eh1, hv1⟩ := hQ1
  have N1 := Fr.app N0 Nq1
  subst hv1
  obtain ⟨T2, h2, X2, e2, W2, st2⟩ := putF X1 hx hZ hown (host := "") (Or.inl (own_k hw 14 rfl)) Via.refl eh1 hF1 hE (Or.inr ⟨(own_k hw 15 rfl), rfl, hnm⟩) (own_k hw 1 rfl) (ty := .int) (by decide) rfl rfl (g := (mkF m 6 #[.val (.ref a1), .val (.int q1), .val (.long j2), .second, .val (.int q3)] [(.int q1), (.ref a1)])) rfl rfl (hb hby d1_6)
  have N2 := Fr.snoc X2 N1 hG1
  have K3 : Keep h0 h2 [a1] := (Keep.refl h0 [a1]).wr W2 (Or.inl (List.mem_of_getElem? (i := 0) rfl))
  have Fw2 : Fld Z h2 a1 "com/example/herault/herault/index/IndexStatistics" "documents" "I" (.int q1) := hF1.same W2
  have f4 : Fld Z h2 a1 "com/example/herault/herault/index/IndexStatistics" "tokens" "J" (.long (0 : Int64)) := (hF2.other W2 (Or.inr (slot_ne (Or.inr (own_k hw 17 rfl)) (Or.inr (own_k hw 15 rfl)) (by decide) (t := .long) (t' := .int) (by decide) (by decide))))
  have f5 : Exa Z h2 a1 "com/example/herault/herault/index/IndexStatistics" := (hE.wr W2)
  obtain ⟨T6, h6, X6, e6, W6, st6⟩ := putF X2 hx hZ hown (host := "") (Or.inl (own_k hw 16 rfl)) Via.refl e2 f4 f5 (Or.inr ⟨(own_k hw 17 rfl), rfl, hnm⟩) (own_k hw 1 rfl) (ty := .long) (by decide) rfl rfl (g := (mkF m 11 #[.val (.ref a1), .val (.int q1), .val (.long j2), .second, .val (.int q3)] [(.long j2), (.ref a1)])) rfl rfl (hb hby d1_11)
  have N6 := Fr.snoc X6 N2 hG1
  have K7 : Keep h0 h6 [a1] := K3.wr W6 (Or.inl (List.mem_of_getElem? (i := 0) rfl))
  have Fw6 : Fld Z h6 a1 "com/example/herault/herault/index/IndexStatistics" "tokens" "J" (.long j2) := f4.same W6
  have f8 : Fld Z h6 a1 "com/example/herault/herault/index/IndexStatistics" "terms" "I" (.int (0 : Int32)) := ((hF3.other W2 (Or.inr (slot_ne (Or.inr (own_k hw 19 rfl)) (Or.inr (own_k hw 15 rfl)) (by decide) (t := .int) (t' := .int) (by decide) (by decide)))).other W6 (Or.inr (slot_ne (Or.inr (own_k hw 19 rfl)) (Or.inr (own_k hw 17 rfl)) (by decide) (t := .int) (t' := .long) (by decide) (by decide))))
  have f9 : Exa Z h6 a1 "com/example/herault/herault/index/IndexStatistics" := (f5.wr W6)
  obtain ⟨T10, h10, X10, e10, W10, st10⟩ := putF X6 hx hZ hown (host := "") (Or.inl (own_k hw 18 rfl)) Via.refl e6 f8 f9 (Or.inr ⟨(own_k hw 19 rfl), rfl, hnm⟩) (own_k hw 1 rfl) (ty := .int) (by decide) rfl rfl (g := (mkF m 17 #[.val (.ref a1), .val (.int q1), .val (.long j2), .second, .val (.int q3)] [(.int q3), (.ref a1)])) rfl rfl (hb hby d1_17)
  have N10 := Fr.snoc X10 N6 hG1
  have K11 : Keep h0 h10 [a1] := K7.wr W10 (Or.inl (List.mem_of_getElem? (i := 0) rfl))
  have Fw10 : Fld Z h10 a1 "com/example/herault/herault/index/IndexStatistics" "terms" "I" (.int q3) := f8.same W10
  have f12 : Exa Z h10 a1 "com/example/herault/herault/index/IndexStatistics" := (f9.wr W10)
  have f13 : Fld Z h10 a1 "com/example/herault/herault/index/IndexStatistics" "documents" "I" (.int q1) := ((Fw2.other W6 (Or.inr (slot_ne (Or.inr (own_k hw 15 rfl)) (Or.inr (own_k hw 17 rfl)) (by decide) (t := .int) (t' := .long) (by decide) (by decide)))).other W10 (Or.inr (slot_ne (Or.inr (own_k hw 15 rfl)) (Or.inr (own_k hw 19 rfl)) (by decide) (t := .int) (t' := .int) (by decide) (by decide))))
  have f14 : Fld Z h10 a1 "com/example/herault/herault/index/IndexStatistics" "tokens" "J" (.long j2) := (Fw6.other W10 (Or.inr (slot_ne (Or.inr (own_k hw 17 rfl)) (Or.inr (own_k hw 19 rfl)) (by decide) (t := .long) (t' := .int) (by decide) (by decide))))
  obtain ⟨fs, hr, hrun, hended, hW, hsame⟩ := X10.leave (v := none) (fun _ => rfl)
  refine ⟨_, _, pre0 _ ?_, hrun, hended, _, _, rfl, ?_, ⟨_, rfl⟩, hW, hsame.mono (by decide) (by decide)⟩
  · show Steps p.tables e below (s₁.setTop (mkF m 0 #[.val (.ref a1), .val (.int q1), .val (.long j2), .second, .val (.int q3)] [])) _
    refine XS.aloadN X0.here hx rfl (hb hby d1_0) rfl rfl ?_
    show Steps p.tables e below (s₁.setTop (mkF m 1 #[.val (.ref a1), .val (.int q1), .val (.long j2), .second, .val (.int q3)] [(.ref a1)])) _
    refine st1.trans ?_
    show Steps p.tables e below (T1.setTop (mkF m 4 #[.val (.ref a1), .val (.int q1), .val (.long j2), .second, .val (.int q3)] [])) _
    refine XS.aloadN X1.here hx rfl (hb hby d1_4) rfl rfl ?_
    show Steps p.tables e below (T1.setTop (mkF m 5 #[.val (.ref a1), .val (.int q1), .val (.long j2), .second, .val (.int q3)] [(.ref a1)])) _
    refine XS.iloadN X1.here hx rfl (hb hby d1_5) rfl ?_
    show Steps p.tables e below (T1.setTop (mkF m 6 #[.val (.ref a1), .val (.int q1), .val (.long j2), .second, .val (.int q3)] [(.int q1), (.ref a1)])) _
    refine st2 _ ?_
    show Steps p.tables e below (T2.setTop (mkF m 9 #[.val (.ref a1), .val (.int q1), .val (.long j2), .second, .val (.int q3)] [])) _
    refine XS.aloadN X2.here hx rfl (hb hby d1_9) rfl rfl ?_
    show Steps p.tables e below (T2.setTop (mkF m 10 #[.val (.ref a1), .val (.int q1), .val (.long j2), .second, .val (.int q3)] [(.ref a1)])) _
    refine XS.lloadN X2.here hx rfl (hb hby d1_10) rfl ?_
    show Steps p.tables e below (T2.setTop (mkF m 11 #[.val (.ref a1), .val (.int q1), .val (.long j2), .second, .val (.int q3)] [(.long j2), (.ref a1)])) _
    refine st6 _ ?_
    show Steps p.tables e below (T6.setTop (mkF m 14 #[.val (.ref a1), .val (.int q1), .val (.long j2), .second, .val (.int q3)] [])) _
    refine XS.aloadN X6.here hx rfl (hb hby d1_14) rfl rfl ?_
    show Steps p.tables e below (T6.setTop (mkF m 15 #[.val (.ref a1), .val (.int q1), .val (.long j2), .second, .val (.int q3)] [(.ref a1)])) _
    refine XS.iload X6.here hx rfl (hb hby d1_15) rfl ?_
    show Steps p.tables e below (T6.setTop (mkF m 17 #[.val (.ref a1), .val (.int q1), .val (.long j2), .second, .val (.int q3)] [(.int q3), (.ref a1)])) _
    refine st10 _ ?_
    show Steps p.tables e below (T10.setTop (mkF m 20 #[.val (.ref a1), .val (.int q1), .val (.long j2), .second, .val (.int q3)] [])) _
    exact X10.returnOut hx Bd.returns (hb hby d1_20) hr
  · show Qini Z a1 q1 j2 q3 h0 n0 _ T10.heap _
    rw [e10]
    exact ⟨N10, K11, f12, f13, f14, rfl⟩
theorem d4_0 : decode prog_56_method_2_code 0 = .ok (.aload_n 0, 1) := by decide +kernel
theorem d4_1 : decode prog_56_method_2_code 1 = .ok (.getfield 7, 3) := by decide +kernel
theorem d4_4 : decode prog_56_method_2_code 4 = .ok (.ifCond .ne 7, 3) := by decide +kernel
theorem d4_11 : decode prog_56_method_2_code 11 = .ok (.aload_n 0, 1) := by decide +kernel
theorem d4_12 : decode prog_56_method_2_code 12 = .ok (.getfield 13, 3) := by decide +kernel
theorem d4_15 : decode prog_56_method_2_code 15 = .ok (.l2d, 1) := by decide +kernel
theorem d4_16 : decode prog_56_method_2_code 16 = .ok (.aload_n 0, 1) := by decide +kernel
theorem d4_17 : decode prog_56_method_2_code 17 = .ok (.getfield 7, 3) := by decide +kernel
theorem d4_20 : decode prog_56_method_2_code 20 = .ok (.i2d, 1) := by decide +kernel
theorem d4_21 : decode prog_56_method_2_code 21 = .ok (.ddiv, 1) := by decide +kernel
theorem d4_22 : decode prog_56_method_2_code 22 = .ok (.dreturn, 1) := by decide +kernel
theorem ef_av0 (m : MethodId) (a1 : Addr) : entryFrame m #[(.ref a1)] 1 = mkF m 0 #[.val (.ref a1)] [] := by first | (simp [entryFrame, mkF, argsToLocals, Value.category]; done) | rfl
def Qav0 (Z : State) (a1 : Addr) (q1 : Int32) (j2 : Int64) (h0 : Heap) (n0 : Nat) (v : Option Value) (h : Heap) (L : List Loc) : Prop := Fr n0 L ∧ h = h0 ∧ (v = some (.double (FP.ddiv (FP.l2d j2) (FP.i2d q1))))
set_option maxRecDepth 65536 in
set_option maxHeartbeats 40000000 in
theorem rmAv0 (l : Launch) (Z : State) (a0 : Array Value) (hw : ∀ d ∈ tables_1, d.before a0 Z = true) (ws : List Jvm.Cond) (a1 : Addr) (q1 : Int32) (j2 : Int64) (h0 : Heap) (n0 : Nat) (Z0 : n0 ≤ h0.size) (hF1 : Fld Z h0 a1 "com/example/herault/herault/index/IndexStatistics" "documents" "I" (.int q1)) (hF2 : Fld Z h0 a1 "com/example/herault/herault/index/IndexStatistics" "tokens" "J" (.long j2)) (hz : ¬ (q1 = (0 : Int32))) :
    MetFree l (⟨"com/example/herault/herault/index/IndexStatistics", "averageDocumentLength", "()D"⟩ : MethodName) (head1 (Jvm.Cond.code (⟨"com/example/herault/herault/index/IndexStatistics", "averageDocumentLength", "()D"⟩ : MethodName) prog_56_method_2_code 1 (some .double) :: ws) ({ frames := 0, cells := 0, slots := 0, locals := 0 } : Room)) (fun a U => a = #[(.ref a1)] ∧ Z.Warmed39 U.vm ∧ U.heap = h0) (fun _ _ _ _ _ => True) (fun _ U o U' => ∃ v L, o = .returned v ∧ Qav0 Z a1 q1 j2 h0 n0 v U'.heap L ∧ FrameEnd U o U' L ({ frames := 0, cells := 0, slots := 0, locals := 0 } : Room).cells ({ frames := 0, cells := 0, slots := 0, locals := 0 } : Room).slots) := by
  refine MetFree.of_bodySF (plainFor_of_name own_pn_1) hisR ?_
  intro p e s m args below meth c s₁ Bd hml0 hP hK
  obtain ⟨rfl, hZ, hh⟩ := hP
  have hx := Bd.exec
  have hby := Bd.bytes
  have hml : c.maxLocals = 1 := hml0
  have hown : s.vm.findClass "com/example/herault/herault/index/IndexStatistics" = some m.cls := findClass_of_methodNamed Bd.named
  have hnm := (name_of_methodNamed Bd.named Bd.method).1
  have X0 : Stand p l e ({ frames := 0, cells := 0, slots := 0, locals := 0 } : Room) s m #[(.ref a1)] below meth c s₁ [] 0 0 := Stand.of_body Bd
  have e0 : s₁.heap = h0 := by rw [← hh, Bd.state]; rfl
  have N0 := Fr.nil n0
  have pre0 : ∀ t, Steps p.tables e below (s₁.setTop (mkF m 0 #[.val (.ref a1)] [])) t → Steps p.tables e below (s₁.setTop (entryFrame m #[(.ref a1)] 1)) t := fun t k => castTop (ef_av0 m a1) k
  obtain ⟨T1, X1, e1, st1⟩ := getF X0 hx hZ hown (host := "") (Or.inl (own_k hw 14 rfl)) Via.refl e0 hF1 (g := (mkF m 1 #[.val (.ref a1)] [(.ref a1)])) rfl rfl (hb hby d4_1)
  obtain ⟨T2, X2, e2, st2⟩ := getF X1 hx hZ hown (host := "") (Or.inl (own_k hw 16 rfl)) Via.refl e1 hF2 (g := (mkF m 12 #[.val (.ref a1)] [(.ref a1)])) rfl rfl (hb hby d4_12)
  obtain ⟨T3, X3, e3, st3⟩ := getF X2 hx hZ hown (host := "") (Or.inl (own_k hw 14 rfl)) Via.refl e2 hF1 (g := (mkF m 17 #[.val (.ref a1)] [(.ref a1), (.double (FP.l2d j2))])) rfl rfl (hb hby d4_17)
  obtain ⟨fs, hr, hrun, hended, hW, hsame⟩ := X3.leave (v := (some (.double (FP.ddiv (FP.l2d j2) (FP.i2d q1))))) (fun h => by rw [Bd.returns] at h; cases h)
  refine ⟨_, _, pre0 _ ?_, hrun, hended, _, _, rfl, ?_, ⟨_, rfl⟩, hW, hsame.mono (by decide) (by decide)⟩
  · show Steps p.tables e below (s₁.setTop (mkF m 0 #[.val (.ref a1)] [])) _
    refine XS.aloadN X0.here hx rfl (hb hby d4_0) rfl rfl ?_
    show Steps p.tables e below (s₁.setTop (mkF m 1 #[.val (.ref a1)] [(.ref a1)])) _
    refine st1 _ ?_
    show Steps p.tables e below (T1.setTop (mkF m 4 #[.val (.ref a1)] [(.int q1)])) _
    refine XS.ifYes X1.here hx rfl (pc0 := 4) (pc' := 11) rfl (hb hby d4_4) rfl ((if0 _ _).trans (feq hz).2) (by decide) (by decide) ?_
    show Steps p.tables e below (T1.setTop (mkF m 11 #[.val (.ref a1)] [])) _
    refine XS.aloadN X1.here hx rfl (hb hby d4_11) rfl rfl ?_
    show Steps p.tables e below (T1.setTop (mkF m 12 #[.val (.ref a1)] [(.ref a1)])) _
    refine st2 _ ?_
    show Steps p.tables e below (T2.setTop (mkF m 15 #[.val (.ref a1)] [(.long j2)])) _
    refine XS.l2dS X2.here hx rfl (hb hby d4_15) rfl (v := FP.l2d j2) rfl ?_
    show Steps p.tables e below (T2.setTop (mkF m 16 #[.val (.ref a1)] [(.double (FP.l2d j2))])) _
    refine XS.aloadN X2.here hx rfl (hb hby d4_16) rfl rfl ?_
    show Steps p.tables e below (T2.setTop (mkF m 17 #[.val (.ref a1)] [(.ref a1), (.double (FP.l2d j2))])) _
    refine st3 _ ?_
    show Steps p.tables e below (T3.setTop (mkF m 20 #[.val (.ref a1)] [(.int q1), (.double (FP.l2d j2))])) _
    refine XS.i2dS X3.here hx rfl (hb hby d4_20) rfl (v := FP.i2d q1) rfl ?_
    show Steps p.tables e below (T3.setTop (mkF m 21 #[.val (.ref a1)] [(.double (FP.i2d q1)), (.double (FP.l2d j2))])) _
    refine XS.ddivS X3.here hx rfl (hb hby d4_21) rfl (Jvm.Free.Fl.ddiv_out (Jvm.Free.Fl.l2d_fin _).noNaN (Jvm.Free.Fl.i2d_fin _) (Jvm.Free.Fl.i2d_nz hz)) (v := (FP.ddiv (FP.l2d j2) (FP.i2d q1))) rfl ?_
    show Steps p.tables e below (T3.setTop (mkF m 22 #[.val (.ref a1)] [(.double (FP.ddiv (FP.l2d j2) (FP.i2d q1)))])) _
    exact retOut X3 hx Bd.returns rfl (Or.inr (Or.inr (Or.inl ⟨rfl, rfl, _, rfl⟩))) (hb hby d4_22) hr
  · show Qav0 Z a1 q1 j2 h0 n0 _ T3.heap _
    rw [e3]
    exact ⟨N0, rfl, rfl⟩
theorem d4_7 : decode prog_56_method_2_code 7 = .ok (.dconst 0, 1) := by decide +kernel
theorem d4_8 : decode prog_56_method_2_code 8 = .ok (.goto 14, 3) := by decide +kernel
theorem ef_av1 (m : MethodId) (a1 : Addr) : entryFrame m #[(.ref a1)] 1 = mkF m 0 #[.val (.ref a1)] [] := by first | (simp [entryFrame, mkF, argsToLocals, Value.category]; done) | rfl
def Qav1 (Z : State) (a1 : Addr) (q1 : Int32) (j2 : Int64) (h0 : Heap) (n0 : Nat) (v : Option Value) (h : Heap) (L : List Loc) : Prop := Fr n0 L ∧ h = h0 ∧ (v = some (.double (0 : UInt64)))
set_option maxRecDepth 65536 in
set_option maxHeartbeats 40000000 in
theorem rmAv1 (l : Launch) (Z : State) (a0 : Array Value) (hw : ∀ d ∈ tables_1, d.before a0 Z = true) (ws : List Jvm.Cond) (a1 : Addr) (q1 : Int32) (j2 : Int64) (h0 : Heap) (n0 : Nat) (Z0 : n0 ≤ h0.size) (hF1 : Fld Z h0 a1 "com/example/herault/herault/index/IndexStatistics" "documents" "I" (.int q1)) (hF2 : Fld Z h0 a1 "com/example/herault/herault/index/IndexStatistics" "tokens" "J" (.long j2)) (hz : q1 = (0 : Int32)) :
    MetFree l (⟨"com/example/herault/herault/index/IndexStatistics", "averageDocumentLength", "()D"⟩ : MethodName) (head1 (Jvm.Cond.code (⟨"com/example/herault/herault/index/IndexStatistics", "averageDocumentLength", "()D"⟩ : MethodName) prog_56_method_2_code 1 (some .double) :: ws) ({ frames := 0, cells := 0, slots := 0, locals := 0 } : Room)) (fun a U => a = #[(.ref a1)] ∧ Z.Warmed39 U.vm ∧ U.heap = h0) (fun _ _ _ _ _ => True) (fun _ U o U' => ∃ v L, o = .returned v ∧ Qav1 Z a1 q1 j2 h0 n0 v U'.heap L ∧ FrameEnd U o U' L ({ frames := 0, cells := 0, slots := 0, locals := 0 } : Room).cells ({ frames := 0, cells := 0, slots := 0, locals := 0 } : Room).slots) := by
  refine MetFree.of_bodySF (plainFor_of_name own_pn_1) hisR ?_
  intro p e s m args below meth c s₁ Bd hml0 hP hK
  obtain ⟨rfl, hZ, hh⟩ := hP
  have hx := Bd.exec
  have hby := Bd.bytes
  have hml : c.maxLocals = 1 := hml0
  have hown : s.vm.findClass "com/example/herault/herault/index/IndexStatistics" = some m.cls := findClass_of_methodNamed Bd.named
  have hnm := (name_of_methodNamed Bd.named Bd.method).1
  have X0 : Stand p l e ({ frames := 0, cells := 0, slots := 0, locals := 0 } : Room) s m #[(.ref a1)] below meth c s₁ [] 0 0 := Stand.of_body Bd
  have e0 : s₁.heap = h0 := by rw [← hh, Bd.state]; rfl
  have N0 := Fr.nil n0
  have pre0 : ∀ t, Steps p.tables e below (s₁.setTop (mkF m 0 #[.val (.ref a1)] [])) t → Steps p.tables e below (s₁.setTop (entryFrame m #[(.ref a1)] 1)) t := fun t k => castTop (ef_av1 m a1) k
  obtain ⟨T1, X1, e1, st1⟩ := getF X0 hx hZ hown (host := "") (Or.inl (own_k hw 14 rfl)) Via.refl e0 hF1 (g := (mkF m 1 #[.val (.ref a1)] [(.ref a1)])) rfl rfl (hb hby d4_1)
  obtain ⟨fs, hr, hrun, hended, hW, hsame⟩ := X1.leave (v := (some (.double (0 : UInt64)))) (fun h => by rw [Bd.returns] at h; cases h)
  refine ⟨_, _, pre0 _ ?_, hrun, hended, _, _, rfl, ?_, ⟨_, rfl⟩, hW, hsame.mono (by decide) (by decide)⟩
  · show Steps p.tables e below (s₁.setTop (mkF m 0 #[.val (.ref a1)] [])) _
    refine XS.aloadN X0.here hx rfl (hb hby d4_0) rfl rfl ?_
    show Steps p.tables e below (s₁.setTop (mkF m 1 #[.val (.ref a1)] [(.ref a1)])) _
    refine st1 _ ?_
    show Steps p.tables e below (T1.setTop (mkF m 4 #[.val (.ref a1)] [(.int q1)])) _
    refine XS.ifNo X1.here hx rfl (hb hby d4_4) rfl ((if0 _ _).trans (teq hz).2) ?_
    show Steps p.tables e below (T1.setTop (mkF m 7 #[.val (.ref a1)] [])) _
    refine XS.dconst0 X1.here hx rfl (hb hby d4_7) (v := (0 : UInt64)) rfl ?_
    show Steps p.tables e below (T1.setTop (mkF m 8 #[.val (.ref a1)] [(.double (0 : UInt64))])) _
    refine XS.goto X1.here hx rfl (pc0 := 8) (pc' := 22) rfl (hb hby d4_8) (by decide) (by decide) ?_
    show Steps p.tables e below (T1.setTop (mkF m 22 #[.val (.ref a1)] [(.double (0 : UInt64))])) _
    exact retOut X1 hx Bd.returns rfl (Or.inr (Or.inr (Or.inl ⟨rfl, rfl, _, rfl⟩))) (hb hby d4_22) hr
  · show Qav1 Z a1 q1 j2 h0 n0 _ T1.heap _
    rw [e1]
    exact ⟨N0, rfl, rfl⟩
theorem own_pn_2 : plainName "com/example/herault/herault/index/IndexStatisticsAverageDocumentLengthPinLaw" = true := by first | (simp [plainName, overriddenIn]; done) | decide +kernel
theorem own_pd_1 : parseMethodDescriptor "(IJI)V" = some ⟨[.int, .long, .int], none⟩ := by decide +kernel
theorem own_pd_2 : parseMethodDescriptor "()D" = some ⟨[], some .double⟩ := by decide +kernel
theorem ef_0 (m : MethodId) (p0 : Int32) (p1 : Int64) (p2 : Int64) (p3 : Int32) (p4 : Int32) : entryFrame m #[(.int p0), (.long p1), (.long p2), (.int p3), (.int p4)] maxLocals = mkF m 0 #[.val (.int p0), .val (.long p1), .second, .val (.long p2), .second, .val (.int p3), .val (.int p4), .unset, .unset, .unset, .unset, .unset, .unset, .unset, .unset, .unset, .unset, .unset, .unset, .unset] [] := by first | (simp [entryFrame, mkF, argsToLocals, Value.category, maxLocals]; done) | rfl
def Q0 (Z : State) (p0 : Int32) (p1 : Int64) (p2 : Int64) (p3 : Int32) (p4 : Int32) (h0 : Heap) (n0 : Nat) (v : Option Value) (h : Heap) (L : List Loc) : Prop := Fr n0 L ∧ v = some (.int (1 : Int32))
set_option maxRecDepth 65536 in
set_option maxHeartbeats 40000000 in
theorem rm0 (l : Launch) (Z : State) (a0 : Array Value) (hw : ∀ d ∈ tables_1, d.before a0 Z = true) (ws : List Jvm.Cond) (p0 : Int32) (p1 : Int64) (p2 : Int64) (p3 : Int32) (p4 : Int32) (h0 : Heap) (n0 : Nat) (Z0 : n0 ≤ h0.size)  :
    MetFree l x (head1 (Jvm.Cond.code x code maxLocals ret :: ws) room_1) (fun a U => a = #[(.int p0), (.long p1), (.long p2), (.int p3), (.int p4)] ∧ Z.Warmed39 U.vm ∧ U.heap = h0) (fun _ _ _ _ _ => True) (fun _ U o U' => ∃ v L, o = .returned v ∧ Q0 Z p0 p1 p2 p3 p4 h0 n0 v U'.heap L ∧ FrameEnd U o U' L 24 128) := by
  refine MetFree.of_bodySF (plainFor_of_name own_pn_2) hisR ?_
  intro p e s m args below meth c s₁ Bd hml0 hP hK
  obtain ⟨rfl, hZ, hh⟩ := hP
  have hx := Bd.exec
  have hby := Bd.bytes
  have hml : c.maxLocals = 20 := hml0
  have hown : s.vm.findClass "com/example/herault/herault/index/IndexStatisticsAverageDocumentLengthPinLaw" = some m.cls := findClass_of_methodNamed Bd.named
  have hnm := (name_of_methodNamed Bd.named Bd.method).1
  have X0 : Stand p l e room_1 s m #[(.int p0), (.long p1), (.long p2), (.int p3), (.int p4)] below meth c s₁ [] 0 0 := Stand.of_body Bd
  have e0 : s₁.heap = h0 := by rw [← hh, Bd.state]; rfl
  have N0 := Fr.nil n0
  have pre0 : ∀ t, Steps p.tables e below (s₁.setTop (mkF m 0 #[.val (.int p0), .val (.long p1), .second, .val (.long p2), .second, .val (.int p3), .val (.int p4), .unset, .unset, .unset, .unset, .unset, .unset, .unset, .unset, .unset, .unset, .unset, .unset, .unset] [])) t → Steps p.tables e below (s₁.setTop (entryFrame m #[(.int p0), (.long p1), (.long p2), (.int p3), (.int p4)] maxLocals)) t := fun t k => castTop (ef_0 m p0 p1 p2 p3 p4) k
  by_cases hd0 : p0 = (0 : Int32)
  · skip
    obtain ⟨T1, h1, X1, e1, E1, A1, D1, -, st1⟩ := newO X0 hx hZ hown (own_k hw 0 rfl) (own_k hw 1 rfl) (own_k hw 2 rfl) e0 (g := (mkF m 7 #[.val (.int p0), .val (.long p1), .second, .val (.long p2), .second, .val (.int p3), .val (.int p4), .val (.int (p3 >>> ((10 : Int32) &&& 31))), .unset, .unset, .unset, .unset, .unset, .unset, .unset, .unset, .unset, .unset, .unset, .unset] [])) rfl (hb hby at_7) (by decide) (by decide)
    obtain ⟨b1, g1⟩ : ∃ z, z = h0.size := ⟨_, rfl⟩
    rw [← g1] at A1 D1 st1
    have g_b1 : n0 ≤ b1 := Nat.le_trans Z0 (Nat.le_of_eq g1.symm)
    have F1_documents : Fld Z h1 b1 "com/example/herault/herault/index/IndexStatistics" "documents" "I" (.int (0 : Int32)) := D1 (Or.inr (own_k hw 15 rfl)) (ty := .int) (by decide)
    have F1_tokens : Fld Z h1 b1 "com/example/herault/herault/index/IndexStatistics" "tokens" "J" (.long (0 : Int64)) := D1 (Or.inr (own_k hw 17 rfl)) (ty := .long) (by decide)
    have F1_terms : Fld Z h1 b1 "com/example/herault/herault/index/IndexStatistics" "terms" "I" (.int (0 : Int32)) := D1 (Or.inr (own_k hw 19 rfl)) (ty := .int) (by decide)
    have f3 : n0 ≤ h1.size := (Nat.le_trans Z0 E1.1)
    obtain ⟨_, _, ⟨T2, L2, k2, n2⟩, -, X2, ⟨Lc2, hQ2, l2, y2, z2⟩, st2⟩ := X1.specialBack hx (y := (⟨"com/example/herault/herault/index/IndexStatistics", "<init>", "(IJI)V"⟩ : MethodName)) rfl hown (mvT hZ (own_k hw 3 rfl)) (mvT hZ (own_k hw 4 rfl)) (mvT hZ (own_k hw 5 rfl)) (by decide) (backOf (W := 1) (rmInit l Z a0 hw [] b1 p0 p1 p4 h1 n0 f3 A1 F1_documents F1_tokens F1_terms g_b1) hZ (own_k hw 5 rfl) (own_k hw 2 rfl) (by decide) (by decide)) (g := (mkF m 15 #[.val (.int p0), .val (.long p1), .second, .val (.long p2), .second, .val (.int p3), .val (.int p4), .val (.int (p3 >>> ((10 : Int32) &&& 31))), .unset, .unset, .unset, .unset, .unset, .unset, .unset, .unset, .unset, .unset, .unset, .unset] [(.int p4), (.long p1), (.int p0), (.ref b1), (.ref b1)])) rfl (by rw [hml]; rfl) (Steps.refl _) (a := b1) (argsL := [(.int p0), (.long p1), (.int p4)]) (rest := [(.ref b1)]) (lenOf own_pd_1 rfl) rfl (by show 2 * 0 + _ ≤ _; exact Nat.le_of_eq rfl) (hb hby at_15) (fun _ _ => ⟨rfl, e1, (by decide : 1 + 0 ≤ _), (by decide : 3 + 0 ≤ _)⟩)
    dsimp only [Pt.U, Pt.locs, Pt.cells, Pt.slots] at X2 l2 y2 z2 st2 hQ2
    subst l2 y2 z2
    obtain ⟨Nq2, Kq2, p2_0, p2_1, p2_2, hv2⟩ := hQ2
    have N2 := Fr.app N0 Nq2
    subst hv2
    have f5 : n0 ≤ T2.heap.size := (Nat.le_trans f3 Kq2.1)
    obtain ⟨cq4, kq4, q4a, q4b, q4c⟩ := isOf hZ rfl p2_0
    obtain ⟨_, _, ⟨T4, L4, k4, n4⟩, -, X4, ⟨Lc4, hQ4, l4, y4, z4⟩, st4⟩ := X2.virtualBack hx (y := (⟨"com/example/herault/herault/index/IndexStatistics", "averageDocumentLength", "()D"⟩ : MethodName)) (z := (⟨"com/example/herault/herault/index/IndexStatistics", "averageDocumentLength", "()D"⟩ : MethodName)) hown (mvT hZ (own_k hw 20 rfl)) (mvT hZ (own_k hw 21 rfl)) (notFace_of_selects (args := #[]) (mvT hZ (own_k hw 23 rfl))) (mvT hZ (own_k hw 23 rfl)) (mvT hZ (own_k hw 22 rfl)) (by decide) (backOf (W := 0) (rmAv1 l Z a0 hw [] b1 p0 p1 T2.heap n0 f5 p2_1 p2_2 (hd0)) hZ (own_k hw 24 rfl) (own_k hw 2 rfl) (by decide) (by decide)) q4a q4c (g := (mkF m 18 #[.val (.int p0), .val (.long p1), .second, .val (.long p2), .second, .val (.int p3), .val (.int p4), .val (.int (p3 >>> ((10 : Int32) &&& 31))), .unset, .unset, .unset, .unset, .unset, .unset, .unset, .unset, .unset, .unset, .unset, .unset] [(.ref b1)])) rfl (by rw [hml]; rfl) (Steps.refl _) (argsL := []) (rest := []) (lenOf own_pd_2 rfl) rfl (by show 2 * 0 + _ ≤ _; exact Nat.le_of_eq rfl) (hb hby at_18) (fun _ _ => ⟨rfl, rfl, (by decide : 1 + 0 ≤ _), (by decide : 3 + 0 ≤ _)⟩)
    dsimp only [Pt.U, Pt.locs, Pt.cells, Pt.slots] at X4 l4 y4 z4 st4 hQ4
    subst l4 y4 z4
    obtain ⟨Nq4, eh4, hv4⟩ := hQ4
    have N4 := Fr.app N2 Nq4
    subst hv4
    obtain ⟨T6, h6, X6, e6, E6, A6, D6, -, st6⟩ := newO X4 hx hZ hown (own_k hw 0 rfl) (own_k hw 1 rfl) (own_k hw 2 rfl) eh4 (g := (mkF m 23 #[.val (.int p0), .val (.long p1), .second, .val (.long p2), .second, .val (.int p3), .val (.int p4), .val (.int (p3 >>> ((10 : Int32) &&& 31))), .val (.double (0 : UInt64)), .second, .unset, .unset, .unset, .unset, .unset, .unset, .unset, .unset, .unset, .unset] [])) rfl (hb hby at_23) (by decide) (by decide)
    obtain ⟨b6, g6⟩ : ∃ z, z = T2.heap.size := ⟨_, rfl⟩
    rw [← g6] at A6 D6 st6
    have g_b6 : n0 ≤ b6 := Nat.le_trans f5 (Nat.le_of_eq g6.symm)
    have F6_documents : Fld Z h6 b6 "com/example/herault/herault/index/IndexStatistics" "documents" "I" (.int (0 : Int32)) := D6 (Or.inr (own_k hw 15 rfl)) (ty := .int) (by decide)
    have F6_tokens : Fld Z h6 b6 "com/example/herault/herault/index/IndexStatistics" "tokens" "J" (.long (0 : Int64)) := D6 (Or.inr (own_k hw 17 rfl)) (ty := .long) (by decide)
    have F6_terms : Fld Z h6 b6 "com/example/herault/herault/index/IndexStatistics" "terms" "I" (.int (0 : Int32)) := D6 (Or.inr (own_k hw 19 rfl)) (ty := .int) (by decide)
    have f8 : n0 ≤ h6.size := (Nat.le_trans f5 E6.1)
    obtain ⟨_, _, ⟨T7, L7, k7, n7⟩, -, X7, ⟨Lc7, hQ7, l7, y7, z7⟩, st7⟩ := X6.specialBack hx (y := (⟨"com/example/herault/herault/index/IndexStatistics", "<init>", "(IJI)V"⟩ : MethodName)) rfl hown (mvT hZ (own_k hw 3 rfl)) (mvT hZ (own_k hw 4 rfl)) (mvT hZ (own_k hw 5 rfl)) (by decide) (backOf (W := 1) (rmInit l Z a0 hw [] b6 p0 p2 p4 h6 n0 f8 A6 F6_documents F6_tokens F6_terms g_b6) hZ (own_k hw 5 rfl) (own_k hw 2 rfl) (by decide) (by decide)) (g := (mkF m 31 #[.val (.int p0), .val (.long p1), .second, .val (.long p2), .second, .val (.int p3), .val (.int p4), .val (.int (p3 >>> ((10 : Int32) &&& 31))), .val (.double (0 : UInt64)), .second, .unset, .unset, .unset, .unset, .unset, .unset, .unset, .unset, .unset, .unset] [(.int p4), (.long p2), (.int p0), (.ref b6), (.ref b6)])) rfl (by rw [hml]; rfl) (Steps.refl _) (a := b6) (argsL := [(.int p0), (.long p2), (.int p4)]) (rest := [(.ref b6)]) (lenOf own_pd_1 rfl) rfl (by show 2 * 0 + _ ≤ _; exact Nat.le_of_eq rfl) (hb hby at_31) (fun _ _ => ⟨rfl, e6, (by decide : 2 + 0 ≤ _), (by decide : 6 + 0 ≤ _)⟩)
    dsimp only [Pt.U, Pt.locs, Pt.cells, Pt.slots] at X7 l7 y7 z7 st7 hQ7
    subst l7 y7 z7
    obtain ⟨Nq7, Kq7, p7_0, p7_1, p7_2, hv7⟩ := hQ7
    have N7 := Fr.app N4 Nq7
    subst hv7
    have f10 : n0 ≤ T7.heap.size := (Nat.le_trans f8 Kq7.1)
    obtain ⟨cq9, kq9, q9a, q9b, q9c⟩ := isOf hZ rfl p7_0
    obtain ⟨_, _, ⟨T9, L9, k9, n9⟩, -, X9, ⟨Lc9, hQ9, l9, y9, z9⟩, st9⟩ := X7.virtualBack hx (y := (⟨"com/example/herault/herault/index/IndexStatistics", "averageDocumentLength", "()D"⟩ : MethodName)) (z := (⟨"com/example/herault/herault/index/IndexStatistics", "averageDocumentLength", "()D"⟩ : MethodName)) hown (mvT hZ (own_k hw 20 rfl)) (mvT hZ (own_k hw 21 rfl)) (notFace_of_selects (args := #[]) (mvT hZ (own_k hw 23 rfl))) (mvT hZ (own_k hw 23 rfl)) (mvT hZ (own_k hw 22 rfl)) (by decide) (backOf (W := 0) (rmAv1 l Z a0 hw [] b6 p0 p2 T7.heap n0 f10 p7_1 p7_2 (hd0)) hZ (own_k hw 24 rfl) (own_k hw 2 rfl) (by decide) (by decide)) q9a q9c (g := (mkF m 34 #[.val (.int p0), .val (.long p1), .second, .val (.long p2), .second, .val (.int p3), .val (.int p4), .val (.int (p3 >>> ((10 : Int32) &&& 31))), .val (.double (0 : UInt64)), .second, .unset, .unset, .unset, .unset, .unset, .unset, .unset, .unset, .unset, .unset] [(.ref b6)])) rfl (by rw [hml]; rfl) (Steps.refl _) (argsL := []) (rest := []) (lenOf own_pd_2 rfl) rfl (by show 2 * 0 + _ ≤ _; exact Nat.le_of_eq rfl) (hb hby at_34) (fun _ _ => ⟨rfl, rfl, (by decide : 2 + 0 ≤ _), (by decide : 6 + 0 ≤ _)⟩)
    dsimp only [Pt.U, Pt.locs, Pt.cells, Pt.slots] at X9 l9 y9 z9 st9 hQ9
    subst l9 y9 z9
    obtain ⟨Nq9, eh9, hv9⟩ := hQ9
    have N9 := Fr.app N7 Nq9
    subst hv9
    obtain ⟨T11, h11, X11, e11, E11, A11, D11, -, st11⟩ := newO X9 hx hZ hown (own_k hw 0 rfl) (own_k hw 1 rfl) (own_k hw 2 rfl) eh9 (g := (mkF m 39 #[.val (.int p0), .val (.long p1), .second, .val (.long p2), .second, .val (.int p3), .val (.int p4), .val (.int (p3 >>> ((10 : Int32) &&& 31))), .val (.double (0 : UInt64)), .second, .val (.double (0 : UInt64)), .second, .unset, .unset, .unset, .unset, .unset, .unset, .unset, .unset] [])) rfl (hb hby at_39) (by decide) (by decide)
    obtain ⟨b11, g11⟩ : ∃ z, z = T7.heap.size := ⟨_, rfl⟩
    rw [← g11] at A11 D11 st11
    have g_b11 : n0 ≤ b11 := Nat.le_trans f10 (Nat.le_of_eq g11.symm)
    have F11_documents : Fld Z h11 b11 "com/example/herault/herault/index/IndexStatistics" "documents" "I" (.int (0 : Int32)) := D11 (Or.inr (own_k hw 15 rfl)) (ty := .int) (by decide)
    have F11_tokens : Fld Z h11 b11 "com/example/herault/herault/index/IndexStatistics" "tokens" "J" (.long (0 : Int64)) := D11 (Or.inr (own_k hw 17 rfl)) (ty := .long) (by decide)
    have F11_terms : Fld Z h11 b11 "com/example/herault/herault/index/IndexStatistics" "terms" "I" (.int (0 : Int32)) := D11 (Or.inr (own_k hw 19 rfl)) (ty := .int) (by decide)
    have f13 : n0 ≤ h11.size := (Nat.le_trans f10 E11.1)
    obtain ⟨_, _, ⟨T12, L12, k12, n12⟩, -, X12, ⟨Lc12, hQ12, l12, y12, z12⟩, st12⟩ := X11.specialBack hx (y := (⟨"com/example/herault/herault/index/IndexStatistics", "<init>", "(IJI)V"⟩ : MethodName)) rfl hown (mvT hZ (own_k hw 3 rfl)) (mvT hZ (own_k hw 4 rfl)) (mvT hZ (own_k hw 5 rfl)) (by decide) (backOf (W := 1) (rmInit l Z a0 hw [] b11 p0 (((p3 >>> ((10 : Int32) &&& 31)).toInt64) * (p0.toInt64)) p4 h11 n0 f13 A11 F11_documents F11_tokens F11_terms g_b11) hZ (own_k hw 5 rfl) (own_k hw 2 rfl) (by decide) (by decide)) (g := (mkF m 52 #[.val (.int p0), .val (.long p1), .second, .val (.long p2), .second, .val (.int p3), .val (.int p4), .val (.int (p3 >>> ((10 : Int32) &&& 31))), .val (.double (0 : UInt64)), .second, .val (.double (0 : UInt64)), .second, .unset, .unset, .unset, .unset, .unset, .unset, .unset, .unset] [(.int p4), (.long (((p3 >>> ((10 : Int32) &&& 31)).toInt64) * (p0.toInt64))), (.int p0), (.ref b11), (.ref b11)])) rfl (by rw [hml]; rfl) (Steps.refl _) (a := b11) (argsL := [(.int p0), (.long (((p3 >>> ((10 : Int32) &&& 31)).toInt64) * (p0.toInt64))), (.int p4)]) (rest := [(.ref b11)]) (lenOf own_pd_1 rfl) rfl (by show 2 * 0 + _ ≤ _; exact Nat.le_of_eq rfl) (hb hby at_52) (fun _ _ => ⟨rfl, e11, (by decide : 3 + 0 ≤ _), (by decide : 9 + 0 ≤ _)⟩)
    dsimp only [Pt.U, Pt.locs, Pt.cells, Pt.slots] at X12 l12 y12 z12 st12 hQ12
    subst l12 y12 z12
    obtain ⟨Nq12, Kq12, p12_0, p12_1, p12_2, hv12⟩ := hQ12
    have N12 := Fr.app N9 Nq12
    subst hv12
    have f15 : n0 ≤ T12.heap.size := (Nat.le_trans f13 Kq12.1)
    obtain ⟨cq14, kq14, q14a, q14b, q14c⟩ := isOf hZ rfl p12_0
    obtain ⟨_, _, ⟨T14, L14, k14, n14⟩, -, X14, ⟨Lc14, hQ14, l14, y14, z14⟩, st14⟩ := X12.virtualBack hx (y := (⟨"com/example/herault/herault/index/IndexStatistics", "averageDocumentLength", "()D"⟩ : MethodName)) (z := (⟨"com/example/herault/herault/index/IndexStatistics", "averageDocumentLength", "()D"⟩ : MethodName)) hown (mvT hZ (own_k hw 20 rfl)) (mvT hZ (own_k hw 21 rfl)) (notFace_of_selects (args := #[]) (mvT hZ (own_k hw 23 rfl))) (mvT hZ (own_k hw 23 rfl)) (mvT hZ (own_k hw 22 rfl)) (by decide) (backOf (W := 0) (rmAv1 l Z a0 hw [] b11 p0 (((p3 >>> ((10 : Int32) &&& 31)).toInt64) * (p0.toInt64)) T12.heap n0 f15 p12_1 p12_2 (hd0)) hZ (own_k hw 24 rfl) (own_k hw 2 rfl) (by decide) (by decide)) q14a q14c (g := (mkF m 55 #[.val (.int p0), .val (.long p1), .second, .val (.long p2), .second, .val (.int p3), .val (.int p4), .val (.int (p3 >>> ((10 : Int32) &&& 31))), .val (.double (0 : UInt64)), .second, .val (.double (0 : UInt64)), .second, .unset, .unset, .unset, .unset, .unset, .unset, .unset, .unset] [(.ref b11)])) rfl (by rw [hml]; rfl) (Steps.refl _) (argsL := []) (rest := []) (lenOf own_pd_2 rfl) rfl (by show 2 * 0 + _ ≤ _; exact Nat.le_of_eq rfl) (hb hby at_55) (fun _ _ => ⟨rfl, rfl, (by decide : 3 + 0 ≤ _), (by decide : 9 + 0 ≤ _)⟩)
    dsimp only [Pt.U, Pt.locs, Pt.cells, Pt.slots] at X14 l14 y14 z14 st14 hQ14
    subst l14 y14 z14
    obtain ⟨Nq14, eh14, hv14⟩ := hQ14
    have N14 := Fr.app N12 Nq14
    subst hv14
    obtain ⟨T16, h16, X16, e16, E16, A16, D16, -, st16⟩ := newO X14 hx hZ hown (own_k hw 0 rfl) (own_k hw 1 rfl) (own_k hw 2 rfl) eh14 (g := (mkF m 60 #[.val (.int p0), .val (.long p1), .second, .val (.long p2), .second, .val (.int p3), .val (.int p4), .val (.int (p3 >>> ((10 : Int32) &&& 31))), .val (.double (0 : UInt64)), .second, .val (.double (0 : UInt64)), .second, .val (.double (0 : UInt64)), .second, .unset, .unset, .unset, .unset, .unset, .unset] [])) rfl (hb hby at_60) (by decide) (by decide)
    obtain ⟨b16, g16⟩ : ∃ z, z = T12.heap.size := ⟨_, rfl⟩
    rw [← g16] at A16 D16 st16
    have g_b16 : n0 ≤ b16 := Nat.le_trans f15 (Nat.le_of_eq g16.symm)
    have F16_documents : Fld Z h16 b16 "com/example/herault/herault/index/IndexStatistics" "documents" "I" (.int (0 : Int32)) := D16 (Or.inr (own_k hw 15 rfl)) (ty := .int) (by decide)
    have F16_tokens : Fld Z h16 b16 "com/example/herault/herault/index/IndexStatistics" "tokens" "J" (.long (0 : Int64)) := D16 (Or.inr (own_k hw 17 rfl)) (ty := .long) (by decide)
    have F16_terms : Fld Z h16 b16 "com/example/herault/herault/index/IndexStatistics" "terms" "I" (.int (0 : Int32)) := D16 (Or.inr (own_k hw 19 rfl)) (ty := .int) (by decide)
    have f18 : n0 ≤ h16.size := (Nat.le_trans f15 E16.1)
    obtain ⟨_, _, ⟨T17, L17, k17, n17⟩, -, X17, ⟨Lc17, hQ17, l17, y17, z17⟩, st17⟩ := X16.specialBack hx (y := (⟨"com/example/herault/herault/index/IndexStatistics", "<init>", "(IJI)V"⟩ : MethodName)) rfl hown (mvT hZ (own_k hw 3 rfl)) (mvT hZ (own_k hw 4 rfl)) (mvT hZ (own_k hw 5 rfl)) (by decide) (backOf (W := 1) (rmInit l Z a0 hw [] b16 (2 : Int32) (((2 : Int64) * ((p3 >>> ((10 : Int32) &&& 31)).toInt64)) + (1 : Int64)) p4 h16 n0 f18 A16 F16_documents F16_tokens F16_terms g_b16) hZ (own_k hw 5 rfl) (own_k hw 2 rfl) (by decide) (by decide)) (g := (mkF m 76 #[.val (.int p0), .val (.long p1), .second, .val (.long p2), .second, .val (.int p3), .val (.int p4), .val (.int (p3 >>> ((10 : Int32) &&& 31))), .val (.double (0 : UInt64)), .second, .val (.double (0 : UInt64)), .second, .val (.double (0 : UInt64)), .second, .unset, .unset, .unset, .unset, .unset, .unset] [(.int p4), (.long (((2 : Int64) * ((p3 >>> ((10 : Int32) &&& 31)).toInt64)) + (1 : Int64))), (.int (2 : Int32)), (.ref b16), (.ref b16)])) rfl (by rw [hml]; rfl) (Steps.refl _) (a := b16) (argsL := [(.int (2 : Int32)), (.long (((2 : Int64) * ((p3 >>> ((10 : Int32) &&& 31)).toInt64)) + (1 : Int64))), (.int p4)]) (rest := [(.ref b16)]) (lenOf own_pd_1 rfl) rfl (by show 2 * 0 + _ ≤ _; exact Nat.le_of_eq rfl) (hb hby at_76) (fun _ _ => ⟨rfl, e16, (by decide : 4 + 0 ≤ _), (by decide : 12 + 0 ≤ _)⟩)
    dsimp only [Pt.U, Pt.locs, Pt.cells, Pt.slots] at X17 l17 y17 z17 st17 hQ17
    subst l17 y17 z17
    obtain ⟨Nq17, Kq17, p17_0, p17_1, p17_2, hv17⟩ := hQ17
    have N17 := Fr.app N14 Nq17
    subst hv17
    have f20 : n0 ≤ T17.heap.size := (Nat.le_trans f18 Kq17.1)
    obtain ⟨cq19, kq19, q19a, q19b, q19c⟩ := isOf hZ rfl p17_0
    obtain ⟨_, _, ⟨T19, L19, k19, n19⟩, -, X19, ⟨Lc19, hQ19, l19, y19, z19⟩, st19⟩ := X17.virtualBack hx (y := (⟨"com/example/herault/herault/index/IndexStatistics", "averageDocumentLength", "()D"⟩ : MethodName)) (z := (⟨"com/example/herault/herault/index/IndexStatistics", "averageDocumentLength", "()D"⟩ : MethodName)) hown (mvT hZ (own_k hw 20 rfl)) (mvT hZ (own_k hw 21 rfl)) (notFace_of_selects (args := #[]) (mvT hZ (own_k hw 23 rfl))) (mvT hZ (own_k hw 23 rfl)) (mvT hZ (own_k hw 22 rfl)) (by decide) (backOf (W := 0) (rmAv0 l Z a0 hw [] b16 (2 : Int32) (((2 : Int64) * ((p3 >>> ((10 : Int32) &&& 31)).toInt64)) + (1 : Int64)) T17.heap n0 f20 p17_1 p17_2 (by decide)) hZ (own_k hw 24 rfl) (own_k hw 2 rfl) (by decide) (by decide)) q19a q19c (g := (mkF m 79 #[.val (.int p0), .val (.long p1), .second, .val (.long p2), .second, .val (.int p3), .val (.int p4), .val (.int (p3 >>> ((10 : Int32) &&& 31))), .val (.double (0 : UInt64)), .second, .val (.double (0 : UInt64)), .second, .val (.double (0 : UInt64)), .second, .unset, .unset, .unset, .unset, .unset, .unset] [(.ref b16)])) rfl (by rw [hml]; rfl) (Steps.refl _) (argsL := []) (rest := []) (lenOf own_pd_2 rfl) rfl (by show 2 * 0 + _ ≤ _; exact Nat.le_of_eq rfl) (hb hby at_79) (fun _ _ => ⟨rfl, rfl, (by decide : 4 + 0 ≤ _), (by decide : 12 + 0 ≤ _)⟩)
    dsimp only [Pt.U, Pt.locs, Pt.cells, Pt.slots] at X19 l19 y19 z19 st19 hQ19
    subst l19 y19 z19
    obtain ⟨Nq19, eh19, hv19⟩ := hQ19
    have N19 := Fr.app N17 Nq19
    subst hv19
    obtain ⟨T21, h21, X21, e21, E21, A21, D21, -, st21⟩ := newO X19 hx hZ hown (own_k hw 0 rfl) (own_k hw 1 rfl) (own_k hw 2 rfl) eh19 (g := (mkF m 84 #[.val (.int p0), .val (.long p1), .second, .val (.long p2), .second, .val (.int p3), .val (.int p4), .val (.int (p3 >>> ((10 : Int32) &&& 31))), .val (.double (0 : UInt64)), .second, .val (.double (0 : UInt64)), .second, .val (.double (0 : UInt64)), .second, .val (.double (FP.ddiv (FP.l2d (((2 : Int64) * ((p3 >>> ((10 : Int32) &&& 31)).toInt64)) + (1 : Int64))) (FP.i2d (2 : Int32)))), .second, .unset, .unset, .unset, .unset] [])) rfl (hb hby at_84) (by decide) (by decide)
    obtain ⟨b21, g21⟩ : ∃ z, z = T17.heap.size := ⟨_, rfl⟩
    rw [← g21] at A21 D21 st21
    have g_b21 : n0 ≤ b21 := Nat.le_trans f20 (Nat.le_of_eq g21.symm)
    have F21_documents : Fld Z h21 b21 "com/example/herault/herault/index/IndexStatistics" "documents" "I" (.int (0 : Int32)) := D21 (Or.inr (own_k hw 15 rfl)) (ty := .int) (by decide)
    have F21_tokens : Fld Z h21 b21 "com/example/herault/herault/index/IndexStatistics" "tokens" "J" (.long (0 : Int64)) := D21 (Or.inr (own_k hw 17 rfl)) (ty := .long) (by decide)
    have F21_terms : Fld Z h21 b21 "com/example/herault/herault/index/IndexStatistics" "terms" "I" (.int (0 : Int32)) := D21 (Or.inr (own_k hw 19 rfl)) (ty := .int) (by decide)
    have f23 : n0 ≤ h21.size := (Nat.le_trans f20 E21.1)
    obtain ⟨_, _, ⟨T22, L22, k22, n22⟩, -, X22, ⟨Lc22, hQ22, l22, y22, z22⟩, st22⟩ := X21.specialBack hx (y := (⟨"com/example/herault/herault/index/IndexStatistics", "<init>", "(IJI)V"⟩ : MethodName)) rfl hown (mvT hZ (own_k hw 3 rfl)) (mvT hZ (own_k hw 4 rfl)) (mvT hZ (own_k hw 5 rfl)) (by decide) (backOf (W := 1) (rmInit l Z a0 hw [] b21 (1 : Int32) p1 p4 h21 n0 f23 A21 F21_documents F21_tokens F21_terms g_b21) hZ (own_k hw 5 rfl) (own_k hw 2 rfl) (by decide) (by decide)) (g := (mkF m 92 #[.val (.int p0), .val (.long p1), .second, .val (.long p2), .second, .val (.int p3), .val (.int p4), .val (.int (p3 >>> ((10 : Int32) &&& 31))), .val (.double (0 : UInt64)), .second, .val (.double (0 : UInt64)), .second, .val (.double (0 : UInt64)), .second, .val (.double (FP.ddiv (FP.l2d (((2 : Int64) * ((p3 >>> ((10 : Int32) &&& 31)).toInt64)) + (1 : Int64))) (FP.i2d (2 : Int32)))), .second, .unset, .unset, .unset, .unset] [(.int p4), (.long p1), (.int (1 : Int32)), (.ref b21), (.ref b21)])) rfl (by rw [hml]; rfl) (Steps.refl _) (a := b21) (argsL := [(.int (1 : Int32)), (.long p1), (.int p4)]) (rest := [(.ref b21)]) (lenOf own_pd_1 rfl) rfl (by show 2 * 0 + _ ≤ _; exact Nat.le_of_eq rfl) (hb hby at_92) (fun _ _ => ⟨rfl, e21, (by decide : 5 + 0 ≤ _), (by decide : 15 + 0 ≤ _)⟩)
    dsimp only [Pt.U, Pt.locs, Pt.cells, Pt.slots] at X22 l22 y22 z22 st22 hQ22
    subst l22 y22 z22
    obtain ⟨Nq22, Kq22, p22_0, p22_1, p22_2, hv22⟩ := hQ22
    have N22 := Fr.app N19 Nq22
    subst hv22
    have f25 : n0 ≤ T22.heap.size := (Nat.le_trans f23 Kq22.1)
    obtain ⟨cq24, kq24, q24a, q24b, q24c⟩ := isOf hZ rfl p22_0
    obtain ⟨_, _, ⟨T24, L24, k24, n24⟩, -, X24, ⟨Lc24, hQ24, l24, y24, z24⟩, st24⟩ := X22.virtualBack hx (y := (⟨"com/example/herault/herault/index/IndexStatistics", "averageDocumentLength", "()D"⟩ : MethodName)) (z := (⟨"com/example/herault/herault/index/IndexStatistics", "averageDocumentLength", "()D"⟩ : MethodName)) hown (mvT hZ (own_k hw 20 rfl)) (mvT hZ (own_k hw 21 rfl)) (notFace_of_selects (args := #[]) (mvT hZ (own_k hw 23 rfl))) (mvT hZ (own_k hw 23 rfl)) (mvT hZ (own_k hw 22 rfl)) (by decide) (backOf (W := 0) (rmAv0 l Z a0 hw [] b21 (1 : Int32) p1 T22.heap n0 f25 p22_1 p22_2 (by decide)) hZ (own_k hw 24 rfl) (own_k hw 2 rfl) (by decide) (by decide)) q24a q24c (g := (mkF m 95 #[.val (.int p0), .val (.long p1), .second, .val (.long p2), .second, .val (.int p3), .val (.int p4), .val (.int (p3 >>> ((10 : Int32) &&& 31))), .val (.double (0 : UInt64)), .second, .val (.double (0 : UInt64)), .second, .val (.double (0 : UInt64)), .second, .val (.double (FP.ddiv (FP.l2d (((2 : Int64) * ((p3 >>> ((10 : Int32) &&& 31)).toInt64)) + (1 : Int64))) (FP.i2d (2 : Int32)))), .second, .unset, .unset, .unset, .unset] [(.ref b21)])) rfl (by rw [hml]; rfl) (Steps.refl _) (argsL := []) (rest := []) (lenOf own_pd_2 rfl) rfl (by show 2 * 0 + _ ≤ _; exact Nat.le_of_eq rfl) (hb hby at_95) (fun _ _ => ⟨rfl, rfl, (by decide : 5 + 0 ≤ _), (by decide : 15 + 0 ≤ _)⟩)
    dsimp only [Pt.U, Pt.locs, Pt.cells, Pt.slots] at X24 l24 y24 z24 st24 hQ24
    subst l24 y24 z24
    obtain ⟨Nq24, eh24, hv24⟩ := hQ24
    have N24 := Fr.app N22 Nq24
    subst hv24
    obtain ⟨fs, hr, hrun, hended, hW, hsame⟩ := X24.leave (v := (some (.int (1 : Int32)))) (fun h => by rw [Bd.returns] at h; cases h)
    refine ⟨_, _, pre0 _ ?_, hrun, hended, _, _, rfl, ?_, ⟨_, rfl⟩, hW, hsame.mono (by decide) (by decide)⟩
    · show Steps p.tables e below (s₁.setTop (mkF m 0 #[.val (.int p0), .val (.long p1), .second, .val (.long p2), .second, .val (.int p3), .val (.int p4), .unset, .unset, .unset, .unset, .unset, .unset, .unset, .unset, .unset, .unset, .unset, .unset, .unset] [])) _
      refine XS.iload X0.here hx rfl (hb hby at_0) rfl ?_
      show Steps p.tables e below (s₁.setTop (mkF m 2 #[.val (.int p0), .val (.long p1), .second, .val (.long p2), .second, .val (.int p3), .val (.int p4), .unset, .unset, .unset, .unset, .unset, .unset, .unset, .unset, .unset, .unset, .unset, .unset, .unset] [(.int p3)])) _
      refine XS.bipush X0.here hx rfl (hb hby at_2) ?_
      show Steps p.tables e below (s₁.setTop (mkF m 4 #[.val (.int p0), .val (.long p1), .second, .val (.long p2), .second, .val (.int p3), .val (.int p4), .unset, .unset, .unset, .unset, .unset, .unset, .unset, .unset, .unset, .unset, .unset, .unset, .unset] [(.int (10 : Int32)), (.int p3)])) _
      refine XS.ishr X0.here hx rfl (hb hby at_4) rfl ?_
      show Steps p.tables e below (s₁.setTop (mkF m 5 #[.val (.int p0), .val (.long p1), .second, .val (.long p2), .second, .val (.int p3), .val (.int p4), .unset, .unset, .unset, .unset, .unset, .unset, .unset, .unset, .unset, .unset, .unset, .unset, .unset] [(.int (p3 >>> ((10 : Int32) &&& 31)))])) _
      refine XS.istore X0.here hx rfl (hb hby at_5) rfl (l' := #[.val (.int p0), .val (.long p1), .second, .val (.long p2), .second, .val (.int p3), .val (.int p4), .val (.int (p3 >>> ((10 : Int32) &&& 31))), .unset, .unset, .unset, .unset, .unset, .unset, .unset, .unset, .unset, .unset, .unset, .unset]) rfl ?_
      show Steps p.tables e below (s₁.setTop (mkF m 7 #[.val (.int p0), .val (.long p1), .second, .val (.long p2), .second, .val (.int p3), .val (.int p4), .val (.int (p3 >>> ((10 : Int32) &&& 31))), .unset, .unset, .unset, .unset, .unset, .unset, .unset, .unset, .unset, .unset, .unset, .unset] [])) _
      refine st1 _ ?_
      show Steps p.tables e below (T1.setTop (mkF m 10 #[.val (.int p0), .val (.long p1), .second, .val (.long p2), .second, .val (.int p3), .val (.int p4), .val (.int (p3 >>> ((10 : Int32) &&& 31))), .unset, .unset, .unset, .unset, .unset, .unset, .unset, .unset, .unset, .unset, .unset, .unset] [(.ref b1)])) _
      refine XS.dup X1.here hx rfl (hb hby at_10) rfl rfl ?_
      show Steps p.tables e below (T1.setTop (mkF m 11 #[.val (.int p0), .val (.long p1), .second, .val (.long p2), .second, .val (.int p3), .val (.int p4), .val (.int (p3 >>> ((10 : Int32) &&& 31))), .unset, .unset, .unset, .unset, .unset, .unset, .unset, .unset, .unset, .unset, .unset, .unset] [(.ref b1), (.ref b1)])) _
      refine XS.iloadN X1.here hx rfl (hb hby at_11) rfl ?_
      show Steps p.tables e below (T1.setTop (mkF m 12 #[.val (.int p0), .val (.long p1), .second, .val (.long p2), .second, .val (.int p3), .val (.int p4), .val (.int (p3 >>> ((10 : Int32) &&& 31))), .unset, .unset, .unset, .unset, .unset, .unset, .unset, .unset, .unset, .unset, .unset, .unset] [(.int p0), (.ref b1), (.ref b1)])) _
      refine XS.lloadN X1.here hx rfl (hb hby at_12) rfl ?_
      show Steps p.tables e below (T1.setTop (mkF m 13 #[.val (.int p0), .val (.long p1), .second, .val (.long p2), .second, .val (.int p3), .val (.int p4), .val (.int (p3 >>> ((10 : Int32) &&& 31))), .unset, .unset, .unset, .unset, .unset, .unset, .unset, .unset, .unset, .unset, .unset, .unset] [(.long p1), (.int p0), (.ref b1), (.ref b1)])) _
      refine XS.iload X1.here hx rfl (hb hby at_13) rfl ?_
      show Steps p.tables e below (T1.setTop (mkF m 15 #[.val (.int p0), .val (.long p1), .second, .val (.long p2), .second, .val (.int p3), .val (.int p4), .val (.int (p3 >>> ((10 : Int32) &&& 31))), .unset, .unset, .unset, .unset, .unset, .unset, .unset, .unset, .unset, .unset, .unset, .unset] [(.int p4), (.long p1), (.int p0), (.ref b1), (.ref b1)])) _
      refine st2.trans ?_
      show Steps p.tables e below (T2.setTop (mkF m 18 #[.val (.int p0), .val (.long p1), .second, .val (.long p2), .second, .val (.int p3), .val (.int p4), .val (.int (p3 >>> ((10 : Int32) &&& 31))), .unset, .unset, .unset, .unset, .unset, .unset, .unset, .unset, .unset, .unset, .unset, .unset] [(.ref b1)])) _
      refine st4.trans ?_
      show Steps p.tables e below (T4.setTop (mkF m 21 #[.val (.int p0), .val (.long p1), .second, .val (.long p2), .second, .val (.int p3), .val (.int p4), .val (.int (p3 >>> ((10 : Int32) &&& 31))), .unset, .unset, .unset, .unset, .unset, .unset, .unset, .unset, .unset, .unset, .unset, .unset] [(.double (0 : UInt64))])) _
      refine XS.dstore X4.here hx rfl (hb hby at_21) rfl (l' := #[.val (.int p0), .val (.long p1), .second, .val (.long p2), .second, .val (.int p3), .val (.int p4), .val (.int (p3 >>> ((10 : Int32) &&& 31))), .val (.double (0 : UInt64)), .second, .unset, .unset, .unset, .unset, .unset, .unset, .unset, .unset, .unset, .unset]) rfl ?_
      show Steps p.tables e below (T4.setTop (mkF m 23 #[.val (.int p0), .val (.long p1), .second, .val (.long p2), .second, .val (.int p3), .val (.int p4), .val (.int (p3 >>> ((10 : Int32) &&& 31))), .val (.double (0 : UInt64)), .second, .unset, .unset, .unset, .unset, .unset, .unset, .unset, .unset, .unset, .unset] [])) _
      refine st6 _ ?_
      show Steps p.tables e below (T6.setTop (mkF m 26 #[.val (.int p0), .val (.long p1), .second, .val (.long p2), .second, .val (.int p3), .val (.int p4), .val (.int (p3 >>> ((10 : Int32) &&& 31))), .val (.double (0 : UInt64)), .second, .unset, .unset, .unset, .unset, .unset, .unset, .unset, .unset, .unset, .unset] [(.ref b6)])) _
      refine XS.dup X6.here hx rfl (hb hby at_26) rfl rfl ?_
      show Steps p.tables e below (T6.setTop (mkF m 27 #[.val (.int p0), .val (.long p1), .second, .val (.long p2), .second, .val (.int p3), .val (.int p4), .val (.int (p3 >>> ((10 : Int32) &&& 31))), .val (.double (0 : UInt64)), .second, .unset, .unset, .unset, .unset, .unset, .unset, .unset, .unset, .unset, .unset] [(.ref b6), (.ref b6)])) _
      refine XS.iloadN X6.here hx rfl (hb hby at_27) rfl ?_
      show Steps p.tables e below (T6.setTop (mkF m 28 #[.val (.int p0), .val (.long p1), .second, .val (.long p2), .second, .val (.int p3), .val (.int p4), .val (.int (p3 >>> ((10 : Int32) &&& 31))), .val (.double (0 : UInt64)), .second, .unset, .unset, .unset, .unset, .unset, .unset, .unset, .unset, .unset, .unset] [(.int p0), (.ref b6), (.ref b6)])) _
      refine XS.lloadN X6.here hx rfl (hb hby at_28) rfl ?_
      show Steps p.tables e below (T6.setTop (mkF m 29 #[.val (.int p0), .val (.long p1), .second, .val (.long p2), .second, .val (.int p3), .val (.int p4), .val (.int (p3 >>> ((10 : Int32) &&& 31))), .val (.double (0 : UInt64)), .second, .unset, .unset, .unset, .unset, .unset, .unset, .unset, .unset, .unset, .unset] [(.long p2), (.int p0), (.ref b6), (.ref b6)])) _
      refine XS.iload X6.here hx rfl (hb hby at_29) rfl ?_
      show Steps p.tables e below (T6.setTop (mkF m 31 #[.val (.int p0), .val (.long p1), .second, .val (.long p2), .second, .val (.int p3), .val (.int p4), .val (.int (p3 >>> ((10 : Int32) &&& 31))), .val (.double (0 : UInt64)), .second, .unset, .unset, .unset, .unset, .unset, .unset, .unset, .unset, .unset, .unset] [(.int p4), (.long p2), (.int p0), (.ref b6), (.ref b6)])) _
      refine st7.trans ?_
      show Steps p.tables e below (T7.setTop (mkF m 34 #[.val (.int p0), .val (.long p1), .second, .val (.long p2), .second, .val (.int p3), .val (.int p4), .val (.int (p3 >>> ((10 : Int32) &&& 31))), .val (.double (0 : UInt64)), .second, .unset, .unset, .unset, .unset, .unset, .unset, .unset, .unset, .unset, .unset] [(.ref b6)])) _
      refine st9.trans ?_
      show Steps p.tables e below (T9.setTop (mkF m 37 #[.val (.int p0), .val (.long p1), .second, .val (.long p2), .second, .val (.int p3), .val (.int p4), .val (.int (p3 >>> ((10 : Int32) &&& 31))), .val (.double (0 : UInt64)), .second, .unset, .unset, .unset, .unset, .unset, .unset, .unset, .unset, .unset, .unset] [(.double (0 : UInt64))])) _
      refine XS.dstore X9.here hx rfl (hb hby at_37) rfl (l' := #[.val (.int p0), .val (.long p1), .second, .val (.long p2), .second, .val (.int p3), .val (.int p4), .val (.int (p3 >>> ((10 : Int32) &&& 31))), .val (.double (0 : UInt64)), .second, .val (.double (0 : UInt64)), .second, .unset, .unset, .unset, .unset, .unset, .unset, .unset, .unset]) rfl ?_
      show Steps p.tables e below (T9.setTop (mkF m 39 #[.val (.int p0), .val (.long p1), .second, .val (.long p2), .second, .val (.int p3), .val (.int p4), .val (.int (p3 >>> ((10 : Int32) &&& 31))), .val (.double (0 : UInt64)), .second, .val (.double (0 : UInt64)), .second, .unset, .unset, .unset, .unset, .unset, .unset, .unset, .unset] [])) _
      refine st11 _ ?_
      show Steps p.tables e below (T11.setTop (mkF m 42 #[.val (.int p0), .val (.long p1), .second, .val (.long p2), .second, .val (.int p3), .val (.int p4), .val (.int (p3 >>> ((10 : Int32) &&& 31))), .val (.double (0 : UInt64)), .second, .val (.double (0 : UInt64)), .second, .unset, .unset, .unset, .unset, .unset, .unset, .unset, .unset] [(.ref b11)])) _
      refine XS.dup X11.here hx rfl (hb hby at_42) rfl rfl ?_
      show Steps p.tables e below (T11.setTop (mkF m 43 #[.val (.int p0), .val (.long p1), .second, .val (.long p2), .second, .val (.int p3), .val (.int p4), .val (.int (p3 >>> ((10 : Int32) &&& 31))), .val (.double (0 : UInt64)), .second, .val (.double (0 : UInt64)), .second, .unset, .unset, .unset, .unset, .unset, .unset, .unset, .unset] [(.ref b11), (.ref b11)])) _
      refine XS.iloadN X11.here hx rfl (hb hby at_43) rfl ?_
      show Steps p.tables e below (T11.setTop (mkF m 44 #[.val (.int p0), .val (.long p1), .second, .val (.long p2), .second, .val (.int p3), .val (.int p4), .val (.int (p3 >>> ((10 : Int32) &&& 31))), .val (.double (0 : UInt64)), .second, .val (.double (0 : UInt64)), .second, .unset, .unset, .unset, .unset, .unset, .unset, .unset, .unset] [(.int p0), (.ref b11), (.ref b11)])) _
      refine XS.iload X11.here hx rfl (hb hby at_44) rfl ?_
      show Steps p.tables e below (T11.setTop (mkF m 46 #[.val (.int p0), .val (.long p1), .second, .val (.long p2), .second, .val (.int p3), .val (.int p4), .val (.int (p3 >>> ((10 : Int32) &&& 31))), .val (.double (0 : UInt64)), .second, .val (.double (0 : UInt64)), .second, .unset, .unset, .unset, .unset, .unset, .unset, .unset, .unset] [(.int (p3 >>> ((10 : Int32) &&& 31))), (.int p0), (.ref b11), (.ref b11)])) _
      refine XS.i2l X11.here hx rfl (hb hby at_46) rfl ?_
      show Steps p.tables e below (T11.setTop (mkF m 47 #[.val (.int p0), .val (.long p1), .second, .val (.long p2), .second, .val (.int p3), .val (.int p4), .val (.int (p3 >>> ((10 : Int32) &&& 31))), .val (.double (0 : UInt64)), .second, .val (.double (0 : UInt64)), .second, .unset, .unset, .unset, .unset, .unset, .unset, .unset, .unset] [(.long ((p3 >>> ((10 : Int32) &&& 31)).toInt64)), (.int p0), (.ref b11), (.ref b11)])) _
      refine XS.iloadN X11.here hx rfl (hb hby at_47) rfl ?_
      show Steps p.tables e below (T11.setTop (mkF m 48 #[.val (.int p0), .val (.long p1), .second, .val (.long p2), .second, .val (.int p3), .val (.int p4), .val (.int (p3 >>> ((10 : Int32) &&& 31))), .val (.double (0 : UInt64)), .second, .val (.double (0 : UInt64)), .second, .unset, .unset, .unset, .unset, .unset, .unset, .unset, .unset] [(.int p0), (.long ((p3 >>> ((10 : Int32) &&& 31)).toInt64)), (.int p0), (.ref b11), (.ref b11)])) _
      refine XS.i2l X11.here hx rfl (hb hby at_48) rfl ?_
      show Steps p.tables e below (T11.setTop (mkF m 49 #[.val (.int p0), .val (.long p1), .second, .val (.long p2), .second, .val (.int p3), .val (.int p4), .val (.int (p3 >>> ((10 : Int32) &&& 31))), .val (.double (0 : UInt64)), .second, .val (.double (0 : UInt64)), .second, .unset, .unset, .unset, .unset, .unset, .unset, .unset, .unset] [(.long (p0.toInt64)), (.long ((p3 >>> ((10 : Int32) &&& 31)).toInt64)), (.int p0), (.ref b11), (.ref b11)])) _
      refine XS.lmul X11.here hx rfl (hb hby at_49) rfl ?_
      show Steps p.tables e below (T11.setTop (mkF m 50 #[.val (.int p0), .val (.long p1), .second, .val (.long p2), .second, .val (.int p3), .val (.int p4), .val (.int (p3 >>> ((10 : Int32) &&& 31))), .val (.double (0 : UInt64)), .second, .val (.double (0 : UInt64)), .second, .unset, .unset, .unset, .unset, .unset, .unset, .unset, .unset] [(.long (((p3 >>> ((10 : Int32) &&& 31)).toInt64) * (p0.toInt64))), (.int p0), (.ref b11), (.ref b11)])) _
      refine XS.iload X11.here hx rfl (hb hby at_50) rfl ?_
      show Steps p.tables e below (T11.setTop (mkF m 52 #[.val (.int p0), .val (.long p1), .second, .val (.long p2), .second, .val (.int p3), .val (.int p4), .val (.int (p3 >>> ((10 : Int32) &&& 31))), .val (.double (0 : UInt64)), .second, .val (.double (0 : UInt64)), .second, .unset, .unset, .unset, .unset, .unset, .unset, .unset, .unset] [(.int p4), (.long (((p3 >>> ((10 : Int32) &&& 31)).toInt64) * (p0.toInt64))), (.int p0), (.ref b11), (.ref b11)])) _
      refine st12.trans ?_
      show Steps p.tables e below (T12.setTop (mkF m 55 #[.val (.int p0), .val (.long p1), .second, .val (.long p2), .second, .val (.int p3), .val (.int p4), .val (.int (p3 >>> ((10 : Int32) &&& 31))), .val (.double (0 : UInt64)), .second, .val (.double (0 : UInt64)), .second, .unset, .unset, .unset, .unset, .unset, .unset, .unset, .unset] [(.ref b11)])) _
      refine st14.trans ?_
      show Steps p.tables e below (T14.setTop (mkF m 58 #[.val (.int p0), .val (.long p1), .second, .val (.long p2), .second, .val (.int p3), .val (.int p4), .val (.int (p3 >>> ((10 : Int32) &&& 31))), .val (.double (0 : UInt64)), .second, .val (.double (0 : UInt64)), .second, .unset, .unset, .unset, .unset, .unset, .unset, .unset, .unset] [(.double (0 : UInt64))])) _
      refine XS.dstore X14.here hx rfl (hb hby at_58) rfl (l' := #[.val (.int p0), .val (.long p1), .second, .val (.long p2), .second, .val (.int p3), .val (.int p4), .val (.int (p3 >>> ((10 : Int32) &&& 31))), .val (.double (0 : UInt64)), .second, .val (.double (0 : UInt64)), .second, .val (.double (0 : UInt64)), .second, .unset, .unset, .unset, .unset, .unset, .unset]) rfl ?_
      show Steps p.tables e below (T14.setTop (mkF m 60 #[.val (.int p0), .val (.long p1), .second, .val (.long p2), .second, .val (.int p3), .val (.int p4), .val (.int (p3 >>> ((10 : Int32) &&& 31))), .val (.double (0 : UInt64)), .second, .val (.double (0 : UInt64)), .second, .val (.double (0 : UInt64)), .second, .unset, .unset, .unset, .unset, .unset, .unset] [])) _
      refine st16 _ ?_
      show Steps p.tables e below (T16.setTop (mkF m 63 #[.val (.int p0), .val (.long p1), .second, .val (.long p2), .second, .val (.int p3), .val (.int p4), .val (.int (p3 >>> ((10 : Int32) &&& 31))), .val (.double (0 : UInt64)), .second, .val (.double (0 : UInt64)), .second, .val (.double (0 : UInt64)), .second, .unset, .unset, .unset, .unset, .unset, .unset] [(.ref b16)])) _
      refine XS.dup X16.here hx rfl (hb hby at_63) rfl rfl ?_
      show Steps p.tables e below (T16.setTop (mkF m 64 #[.val (.int p0), .val (.long p1), .second, .val (.long p2), .second, .val (.int p3), .val (.int p4), .val (.int (p3 >>> ((10 : Int32) &&& 31))), .val (.double (0 : UInt64)), .second, .val (.double (0 : UInt64)), .second, .val (.double (0 : UInt64)), .second, .unset, .unset, .unset, .unset, .unset, .unset] [(.ref b16), (.ref b16)])) _
      refine XS.iconst X16.here hx rfl (hb hby at_64) ?_
      show Steps p.tables e below (T16.setTop (mkF m 65 #[.val (.int p0), .val (.long p1), .second, .val (.long p2), .second, .val (.int p3), .val (.int p4), .val (.int (p3 >>> ((10 : Int32) &&& 31))), .val (.double (0 : UInt64)), .second, .val (.double (0 : UInt64)), .second, .val (.double (0 : UInt64)), .second, .unset, .unset, .unset, .unset, .unset, .unset] [(.int (2 : Int32)), (.ref b16), (.ref b16)])) _
      refine X16.ldc2Long hx hown (mvT hZ (own_k hw 25 rfl)) (g := (mkF m 65 #[.val (.int p0), .val (.long p1), .second, .val (.long p2), .second, .val (.int p3), .val (.int p4), .val (.int (p3 >>> ((10 : Int32) &&& 31))), .val (.double (0 : UInt64)), .second, .val (.double (0 : UInt64)), .second, .val (.double (0 : UInt64)), .second, .unset, .unset, .unset, .unset, .unset, .unset] [(.int (2 : Int32)), (.ref b16), (.ref b16)])) rfl (hb hby at_65) _ ?_
      show Steps p.tables e below (T16.setTop (mkF m 68 #[.val (.int p0), .val (.long p1), .second, .val (.long p2), .second, .val (.int p3), .val (.int p4), .val (.int (p3 >>> ((10 : Int32) &&& 31))), .val (.double (0 : UInt64)), .second, .val (.double (0 : UInt64)), .second, .val (.double (0 : UInt64)), .second, .unset, .unset, .unset, .unset, .unset, .unset] [(.long (2 : Int64)), (.int (2 : Int32)), (.ref b16), (.ref b16)])) _
      refine XS.iload X16.here hx rfl (hb hby at_68) rfl ?_
      show Steps p.tables e below (T16.setTop (mkF m 70 #[.val (.int p0), .val (.long p1), .second, .val (.long p2), .second, .val (.int p3), .val (.int p4), .val (.int (p3 >>> ((10 : Int32) &&& 31))), .val (.double (0 : UInt64)), .second, .val (.double (0 : UInt64)), .second, .val (.double (0 : UInt64)), .second, .unset, .unset, .unset, .unset, .unset, .unset] [(.int (p3 >>> ((10 : Int32) &&& 31))), (.long (2 : Int64)), (.int (2 : Int32)), (.ref b16), (.ref b16)])) _
      refine XS.i2l X16.here hx rfl (hb hby at_70) rfl ?_
      show Steps p.tables e below (T16.setTop (mkF m 71 #[.val (.int p0), .val (.long p1), .second, .val (.long p2), .second, .val (.int p3), .val (.int p4), .val (.int (p3 >>> ((10 : Int32) &&& 31))), .val (.double (0 : UInt64)), .second, .val (.double (0 : UInt64)), .second, .val (.double (0 : UInt64)), .second, .unset, .unset, .unset, .unset, .unset, .unset] [(.long ((p3 >>> ((10 : Int32) &&& 31)).toInt64)), (.long (2 : Int64)), (.int (2 : Int32)), (.ref b16), (.ref b16)])) _
      refine XS.lmul X16.here hx rfl (hb hby at_71) rfl ?_
      show Steps p.tables e below (T16.setTop (mkF m 72 #[.val (.int p0), .val (.long p1), .second, .val (.long p2), .second, .val (.int p3), .val (.int p4), .val (.int (p3 >>> ((10 : Int32) &&& 31))), .val (.double (0 : UInt64)), .second, .val (.double (0 : UInt64)), .second, .val (.double (0 : UInt64)), .second, .unset, .unset, .unset, .unset, .unset, .unset] [(.long ((2 : Int64) * ((p3 >>> ((10 : Int32) &&& 31)).toInt64))), (.int (2 : Int32)), (.ref b16), (.ref b16)])) _
      refine XS.lconst X16.here hx rfl (hb hby at_72) ?_
      show Steps p.tables e below (T16.setTop (mkF m 73 #[.val (.int p0), .val (.long p1), .second, .val (.long p2), .second, .val (.int p3), .val (.int p4), .val (.int (p3 >>> ((10 : Int32) &&& 31))), .val (.double (0 : UInt64)), .second, .val (.double (0 : UInt64)), .second, .val (.double (0 : UInt64)), .second, .unset, .unset, .unset, .unset, .unset, .unset] [(.long (1 : Int64)), (.long ((2 : Int64) * ((p3 >>> ((10 : Int32) &&& 31)).toInt64))), (.int (2 : Int32)), (.ref b16), (.ref b16)])) _
      refine XS.ladd X16.here hx rfl (hb hby at_73) rfl ?_
      show Steps p.tables e below (T16.setTop (mkF m 74 #[.val (.int p0), .val (.long p1), .second, .val (.long p2), .second, .val (.int p3), .val (.int p4), .val (.int (p3 >>> ((10 : Int32) &&& 31))), .val (.double (0 : UInt64)), .second, .val (.double (0 : UInt64)), .second, .val (.double (0 : UInt64)), .second, .unset, .unset, .unset, .unset, .unset, .unset] [(.long (((2 : Int64) * ((p3 >>> ((10 : Int32) &&& 31)).toInt64)) + (1 : Int64))), (.int (2 : Int32)), (.ref b16), (.ref b16)])) _
      refine XS.iload X16.here hx rfl (hb hby at_74) rfl ?_
      show Steps p.tables e below (T16.setTop (mkF m 76 #[.val (.int p0), .val (.long p1), .second, .val (.long p2), .second, .val (.int p3), .val (.int p4), .val (.int (p3 >>> ((10 : Int32) &&& 31))), .val (.double (0 : UInt64)), .second, .val (.double (0 : UInt64)), .second, .val (.double (0 : UInt64)), .second, .unset, .unset, .unset, .unset, .unset, .unset] [(.int p4), (.long (((2 : Int64) * ((p3 >>> ((10 : Int32) &&& 31)).toInt64)) + (1 : Int64))), (.int (2 : Int32)), (.ref b16), (.ref b16)])) _
      refine st17.trans ?_
      show Steps p.tables e below (T17.setTop (mkF m 79 #[.val (.int p0), .val (.long p1), .second, .val (.long p2), .second, .val (.int p3), .val (.int p4), .val (.int (p3 >>> ((10 : Int32) &&& 31))), .val (.double (0 : UInt64)), .second, .val (.double (0 : UInt64)), .second, .val (.double (0 : UInt64)), .second, .unset, .unset, .unset, .unset, .unset, .unset] [(.ref b16)])) _
      refine st19.trans ?_
      show Steps p.tables e below (T19.setTop (mkF m 82 #[.val (.int p0), .val (.long p1), .second, .val (.long p2), .second, .val (.int p3), .val (.int p4), .val (.int (p3 >>> ((10 : Int32) &&& 31))), .val (.double (0 : UInt64)), .second, .val (.double (0 : UInt64)), .second, .val (.double (0 : UInt64)), .second, .unset, .unset, .unset, .unset, .unset, .unset] [(.double (FP.ddiv (FP.l2d (((2 : Int64) * ((p3 >>> ((10 : Int32) &&& 31)).toInt64)) + (1 : Int64))) (FP.i2d (2 : Int32))))])) _
      refine XS.dstore X19.here hx rfl (hb hby at_82) rfl (l' := #[.val (.int p0), .val (.long p1), .second, .val (.long p2), .second, .val (.int p3), .val (.int p4), .val (.int (p3 >>> ((10 : Int32) &&& 31))), .val (.double (0 : UInt64)), .second, .val (.double (0 : UInt64)), .second, .val (.double (0 : UInt64)), .second, .val (.double (FP.ddiv (FP.l2d (((2 : Int64) * ((p3 >>> ((10 : Int32) &&& 31)).toInt64)) + (1 : Int64))) (FP.i2d (2 : Int32)))), .second, .unset, .unset, .unset, .unset]) rfl ?_
      show Steps p.tables e below (T19.setTop (mkF m 84 #[.val (.int p0), .val (.long p1), .second, .val (.long p2), .second, .val (.int p3), .val (.int p4), .val (.int (p3 >>> ((10 : Int32) &&& 31))), .val (.double (0 : UInt64)), .second, .val (.double (0 : UInt64)), .second, .val (.double (0 : UInt64)), .second, .val (.double (FP.ddiv (FP.l2d (((2 : Int64) * ((p3 >>> ((10 : Int32) &&& 31)).toInt64)) + (1 : Int64))) (FP.i2d (2 : Int32)))), .second, .unset, .unset, .unset, .unset] [])) _
      refine st21 _ ?_
      show Steps p.tables e below (T21.setTop (mkF m 87 #[.val (.int p0), .val (.long p1), .second, .val (.long p2), .second, .val (.int p3), .val (.int p4), .val (.int (p3 >>> ((10 : Int32) &&& 31))), .val (.double (0 : UInt64)), .second, .val (.double (0 : UInt64)), .second, .val (.double (0 : UInt64)), .second, .val (.double (FP.ddiv (FP.l2d (((2 : Int64) * ((p3 >>> ((10 : Int32) &&& 31)).toInt64)) + (1 : Int64))) (FP.i2d (2 : Int32)))), .second, .unset, .unset, .unset, .unset] [(.ref b21)])) _
      refine XS.dup X21.here hx rfl (hb hby at_87) rfl rfl ?_
      show Steps p.tables e below (T21.setTop (mkF m 88 #[.val (.int p0), .val (.long p1), .second, .val (.long p2), .second, .val (.int p3), .val (.int p4), .val (.int (p3 >>> ((10 : Int32) &&& 31))), .val (.double (0 : UInt64)), .second, .val (.double (0 : UInt64)), .second, .val (.double (0 : UInt64)), .second, .val (.double (FP.ddiv (FP.l2d (((2 : Int64) * ((p3 >>> ((10 : Int32) &&& 31)).toInt64)) + (1 : Int64))) (FP.i2d (2 : Int32)))), .second, .unset, .unset, .unset, .unset] [(.ref b21), (.ref b21)])) _
      refine XS.iconst X21.here hx rfl (hb hby at_88) ?_
      show Steps p.tables e below (T21.setTop (mkF m 89 #[.val (.int p0), .val (.long p1), .second, .val (.long p2), .second, .val (.int p3), .val (.int p4), .val (.int (p3 >>> ((10 : Int32) &&& 31))), .val (.double (0 : UInt64)), .second, .val (.double (0 : UInt64)), .second, .val (.double (0 : UInt64)), .second, .val (.double (FP.ddiv (FP.l2d (((2 : Int64) * ((p3 >>> ((10 : Int32) &&& 31)).toInt64)) + (1 : Int64))) (FP.i2d (2 : Int32)))), .second, .unset, .unset, .unset, .unset] [(.int (1 : Int32)), (.ref b21), (.ref b21)])) _
      refine XS.lloadN X21.here hx rfl (hb hby at_89) rfl ?_
      show Steps p.tables e below (T21.setTop (mkF m 90 #[.val (.int p0), .val (.long p1), .second, .val (.long p2), .second, .val (.int p3), .val (.int p4), .val (.int (p3 >>> ((10 : Int32) &&& 31))), .val (.double (0 : UInt64)), .second, .val (.double (0 : UInt64)), .second, .val (.double (0 : UInt64)), .second, .val (.double (FP.ddiv (FP.l2d (((2 : Int64) * ((p3 >>> ((10 : Int32) &&& 31)).toInt64)) + (1 : Int64))) (FP.i2d (2 : Int32)))), .second, .unset, .unset, .unset, .unset] [(.long p1), (.int (1 : Int32)), (.ref b21), (.ref b21)])) _
      refine XS.iload X21.here hx rfl (hb hby at_90) rfl ?_
      show Steps p.tables e below (T21.setTop (mkF m 92 #[.val (.int p0), .val (.long p1), .second, .val (.long p2), .second, .val (.int p3), .val (.int p4), .val (.int (p3 >>> ((10 : Int32) &&& 31))), .val (.double (0 : UInt64)), .second, .val (.double (0 : UInt64)), .second, .val (.double (0 : UInt64)), .second, .val (.double (FP.ddiv (FP.l2d (((2 : Int64) * ((p3 >>> ((10 : Int32) &&& 31)).toInt64)) + (1 : Int64))) (FP.i2d (2 : Int32)))), .second, .unset, .unset, .unset, .unset] [(.int p4), (.long p1), (.int (1 : Int32)), (.ref b21), (.ref b21)])) _
      refine st22.trans ?_
      show Steps p.tables e below (T22.setTop (mkF m 95 #[.val (.int p0), .val (.long p1), .second, .val (.long p2), .second, .val (.int p3), .val (.int p4), .val (.int (p3 >>> ((10 : Int32) &&& 31))), .val (.double (0 : UInt64)), .second, .val (.double (0 : UInt64)), .second, .val (.double (0 : UInt64)), .second, .val (.double (FP.ddiv (FP.l2d (((2 : Int64) * ((p3 >>> ((10 : Int32) &&& 31)).toInt64)) + (1 : Int64))) (FP.i2d (2 : Int32)))), .second, .unset, .unset, .unset, .unset] [(.ref b21)])) _
      refine st24.trans ?_
      show Steps p.tables e below (T24.setTop (mkF m 98 #[.val (.int p0), .val (.long p1), .second, .val (.long p2), .second, .val (.int p3), .val (.int p4), .val (.int (p3 >>> ((10 : Int32) &&& 31))), .val (.double (0 : UInt64)), .second, .val (.double (0 : UInt64)), .second, .val (.double (0 : UInt64)), .second, .val (.double (FP.ddiv (FP.l2d (((2 : Int64) * ((p3 >>> ((10 : Int32) &&& 31)).toInt64)) + (1 : Int64))) (FP.i2d (2 : Int32)))), .second, .unset, .unset, .unset, .unset] [(.double (FP.ddiv (FP.l2d p1) (FP.i2d (1 : Int32))))])) _
      refine XS.dstore X24.here hx rfl (hb hby at_98) rfl (l' := #[.val (.int p0), .val (.long p1), .second, .val (.long p2), .second, .val (.int p3), .val (.int p4), .val (.int (p3 >>> ((10 : Int32) &&& 31))), .val (.double (0 : UInt64)), .second, .val (.double (0 : UInt64)), .second, .val (.double (0 : UInt64)), .second, .val (.double (FP.ddiv (FP.l2d (((2 : Int64) * ((p3 >>> ((10 : Int32) &&& 31)).toInt64)) + (1 : Int64))) (FP.i2d (2 : Int32)))), .second, .val (.double (FP.ddiv (FP.l2d p1) (FP.i2d (1 : Int32)))), .second, .unset, .unset]) rfl ?_
      show Steps p.tables e below (T24.setTop (mkF m 100 #[.val (.int p0), .val (.long p1), .second, .val (.long p2), .second, .val (.int p3), .val (.int p4), .val (.int (p3 >>> ((10 : Int32) &&& 31))), .val (.double (0 : UInt64)), .second, .val (.double (0 : UInt64)), .second, .val (.double (0 : UInt64)), .second, .val (.double (FP.ddiv (FP.l2d (((2 : Int64) * ((p3 >>> ((10 : Int32) &&& 31)).toInt64)) + (1 : Int64))) (FP.i2d (2 : Int32)))), .second, .val (.double (FP.ddiv (FP.l2d p1) (FP.i2d (1 : Int32)))), .second, .unset, .unset] [])) _
      refine XS.dload X24.here hx rfl (hb hby at_100) rfl ?_
      show Steps p.tables e below (T24.setTop (mkF m 102 #[.val (.int p0), .val (.long p1), .second, .val (.long p2), .second, .val (.int p3), .val (.int p4), .val (.int (p3 >>> ((10 : Int32) &&& 31))), .val (.double (0 : UInt64)), .second, .val (.double (0 : UInt64)), .second, .val (.double (0 : UInt64)), .second, .val (.double (FP.ddiv (FP.l2d (((2 : Int64) * ((p3 >>> ((10 : Int32) &&& 31)).toInt64)) + (1 : Int64))) (FP.i2d (2 : Int32)))), .second, .val (.double (FP.ddiv (FP.l2d p1) (FP.i2d (1 : Int32)))), .second, .unset, .unset] [(.double (FP.ddiv (FP.l2d p1) (FP.i2d (1 : Int32))))])) _
      refine XS.lloadN X24.here hx rfl (hb hby at_102) rfl ?_
      show Steps p.tables e below (T24.setTop (mkF m 103 #[.val (.int p0), .val (.long p1), .second, .val (.long p2), .second, .val (.int p3), .val (.int p4), .val (.int (p3 >>> ((10 : Int32) &&& 31))), .val (.double (0 : UInt64)), .second, .val (.double (0 : UInt64)), .second, .val (.double (0 : UInt64)), .second, .val (.double (FP.ddiv (FP.l2d (((2 : Int64) * ((p3 >>> ((10 : Int32) &&& 31)).toInt64)) + (1 : Int64))) (FP.i2d (2 : Int32)))), .second, .val (.double (FP.ddiv (FP.l2d p1) (FP.i2d (1 : Int32)))), .second, .unset, .unset] [(.long p1), (.double (FP.ddiv (FP.l2d p1) (FP.i2d (1 : Int32))))])) _
      refine XS.l2dS X24.here hx rfl (hb hby at_103) rfl (v := FP.l2d p1) rfl ?_
      show Steps p.tables e below (T24.setTop (mkF m 104 #[.val (.int p0), .val (.long p1), .second, .val (.long p2), .second, .val (.int p3), .val (.int p4), .val (.int (p3 >>> ((10 : Int32) &&& 31))), .val (.double (0 : UInt64)), .second, .val (.double (0 : UInt64)), .second, .val (.double (0 : UInt64)), .second, .val (.double (FP.ddiv (FP.l2d (((2 : Int64) * ((p3 >>> ((10 : Int32) &&& 31)).toInt64)) + (1 : Int64))) (FP.i2d (2 : Int32)))), .second, .val (.double (FP.ddiv (FP.l2d p1) (FP.i2d (1 : Int32)))), .second, .unset, .unset] [(.double (FP.l2d p1)), (.double (FP.ddiv (FP.l2d p1) (FP.i2d (1 : Int32))))])) _
      refine XS.dcmpS X24.here hx rfl (hb hby at_104) rfl (v := (cmpValue (FP.dcmp (FP.ddiv (FP.l2d p1) (FP.i2d (1 : Int32))) (FP.l2d p1)) .l)) rfl ?_
      show Steps p.tables e below (T24.setTop (mkF m 105 #[.val (.int p0), .val (.long p1), .second, .val (.long p2), .second, .val (.int p3), .val (.int p4), .val (.int (p3 >>> ((10 : Int32) &&& 31))), .val (.double (0 : UInt64)), .second, .val (.double (0 : UInt64)), .second, .val (.double (0 : UInt64)), .second, .val (.double (FP.ddiv (FP.l2d (((2 : Int64) * ((p3 >>> ((10 : Int32) &&& 31)).toInt64)) + (1 : Int64))) (FP.i2d (2 : Int32)))), .second, .val (.double (FP.ddiv (FP.l2d p1) (FP.i2d (1 : Int32)))), .second, .unset, .unset] [(.int (cmpValue (FP.dcmp (FP.ddiv (FP.l2d p1) (FP.i2d (1 : Int32))) (FP.l2d p1)) .l))])) _
      refine XS.ifNo X24.here hx rfl (hb hby at_105) rfl ((if0 _ _).trans (teq (own_ceq (own_avF _ (by decide)).ne (own_l2dF _).ne (own_one _) .l)).2) ?_
      show Steps p.tables e below (T24.setTop (mkF m 108 #[.val (.int p0), .val (.long p1), .second, .val (.long p2), .second, .val (.int p3), .val (.int p4), .val (.int (p3 >>> ((10 : Int32) &&& 31))), .val (.double (0 : UInt64)), .second, .val (.double (0 : UInt64)), .second, .val (.double (0 : UInt64)), .second, .val (.double (FP.ddiv (FP.l2d (((2 : Int64) * ((p3 >>> ((10 : Int32) &&& 31)).toInt64)) + (1 : Int64))) (FP.i2d (2 : Int32)))), .second, .val (.double (FP.ddiv (FP.l2d p1) (FP.i2d (1 : Int32)))), .second, .unset, .unset] [])) _
      refine XS.dload X24.here hx rfl (hb hby at_108) rfl ?_
      show Steps p.tables e below (T24.setTop (mkF m 110 #[.val (.int p0), .val (.long p1), .second, .val (.long p2), .second, .val (.int p3), .val (.int p4), .val (.int (p3 >>> ((10 : Int32) &&& 31))), .val (.double (0 : UInt64)), .second, .val (.double (0 : UInt64)), .second, .val (.double (0 : UInt64)), .second, .val (.double (FP.ddiv (FP.l2d (((2 : Int64) * ((p3 >>> ((10 : Int32) &&& 31)).toInt64)) + (1 : Int64))) (FP.i2d (2 : Int32)))), .second, .val (.double (FP.ddiv (FP.l2d p1) (FP.i2d (1 : Int32)))), .second, .unset, .unset] [(.double (FP.ddiv (FP.l2d (((2 : Int64) * ((p3 >>> ((10 : Int32) &&& 31)).toInt64)) + (1 : Int64))) (FP.i2d (2 : Int32))))])) _
      refine XS.iload X24.here hx rfl (hb hby at_110) rfl ?_
      show Steps p.tables e below (T24.setTop (mkF m 112 #[.val (.int p0), .val (.long p1), .second, .val (.long p2), .second, .val (.int p3), .val (.int p4), .val (.int (p3 >>> ((10 : Int32) &&& 31))), .val (.double (0 : UInt64)), .second, .val (.double (0 : UInt64)), .second, .val (.double (0 : UInt64)), .second, .val (.double (FP.ddiv (FP.l2d (((2 : Int64) * ((p3 >>> ((10 : Int32) &&& 31)).toInt64)) + (1 : Int64))) (FP.i2d (2 : Int32)))), .second, .val (.double (FP.ddiv (FP.l2d p1) (FP.i2d (1 : Int32)))), .second, .unset, .unset] [(.int (p3 >>> ((10 : Int32) &&& 31))), (.double (FP.ddiv (FP.l2d (((2 : Int64) * ((p3 >>> ((10 : Int32) &&& 31)).toInt64)) + (1 : Int64))) (FP.i2d (2 : Int32))))])) _
      refine XS.i2dS X24.here hx rfl (hb hby at_112) rfl (v := FP.i2d (p3 >>> ((10 : Int32) &&& 31))) rfl ?_
      show Steps p.tables e below (T24.setTop (mkF m 113 #[.val (.int p0), .val (.long p1), .second, .val (.long p2), .second, .val (.int p3), .val (.int p4), .val (.int (p3 >>> ((10 : Int32) &&& 31))), .val (.double (0 : UInt64)), .second, .val (.double (0 : UInt64)), .second, .val (.double (0 : UInt64)), .second, .val (.double (FP.ddiv (FP.l2d (((2 : Int64) * ((p3 >>> ((10 : Int32) &&& 31)).toInt64)) + (1 : Int64))) (FP.i2d (2 : Int32)))), .second, .val (.double (FP.ddiv (FP.l2d p1) (FP.i2d (1 : Int32)))), .second, .unset, .unset] [(.double (FP.i2d (p3 >>> ((10 : Int32) &&& 31)))), (.double (FP.ddiv (FP.l2d (((2 : Int64) * ((p3 >>> ((10 : Int32) &&& 31)).toInt64)) + (1 : Int64))) (FP.i2d (2 : Int32))))])) _
      refine X24.ldc2DoubleC hx hown (mvT hZ (own_k hw 26 rfl)) (g := (mkF m 113 #[.val (.int p0), .val (.long p1), .second, .val (.long p2), .second, .val (.int p3), .val (.int p4), .val (.int (p3 >>> ((10 : Int32) &&& 31))), .val (.double (0 : UInt64)), .second, .val (.double (0 : UInt64)), .second, .val (.double (0 : UInt64)), .second, .val (.double (FP.ddiv (FP.l2d (((2 : Int64) * ((p3 >>> ((10 : Int32) &&& 31)).toInt64)) + (1 : Int64))) (FP.i2d (2 : Int32)))), .second, .val (.double (FP.ddiv (FP.l2d p1) (FP.i2d (1 : Int32)))), .second, .unset, .unset] [(.double (FP.i2d (p3 >>> ((10 : Int32) &&& 31)))), (.double (FP.ddiv (FP.l2d (((2 : Int64) * ((p3 >>> ((10 : Int32) &&& 31)).toInt64)) + (1 : Int64))) (FP.i2d (2 : Int32))))])) rfl (hb hby at_113) _ ?_
      show Steps p.tables e below (T24.setTop (mkF m 116 #[.val (.int p0), .val (.long p1), .second, .val (.long p2), .second, .val (.int p3), .val (.int p4), .val (.int (p3 >>> ((10 : Int32) &&& 31))), .val (.double (0 : UInt64)), .second, .val (.double (0 : UInt64)), .second, .val (.double (0 : UInt64)), .second, .val (.double (FP.ddiv (FP.l2d (((2 : Int64) * ((p3 >>> ((10 : Int32) &&& 31)).toInt64)) + (1 : Int64))) (FP.i2d (2 : Int32)))), .second, .val (.double (FP.ddiv (FP.l2d p1) (FP.i2d (1 : Int32)))), .second, .unset, .unset] [(.double (4602678819172646912 : UInt64)), (.double (FP.i2d (p3 >>> ((10 : Int32) &&& 31)))), (.double (FP.ddiv (FP.l2d (((2 : Int64) * ((p3 >>> ((10 : Int32) &&& 31)).toInt64)) + (1 : Int64))) (FP.i2d (2 : Int32))))])) _
      refine XS.daddS X24.here hx rfl (hb hby at_116) rfl (own_nn (own_half (own_small p3)).2.ne) (v := (FP.dadd (FP.i2d (p3 >>> ((10 : Int32) &&& 31))) (4602678819172646912 : UInt64))) rfl ?_
      show Steps p.tables e below (T24.setTop (mkF m 117 #[.val (.int p0), .val (.long p1), .second, .val (.long p2), .second, .val (.int p3), .val (.int p4), .val (.int (p3 >>> ((10 : Int32) &&& 31))), .val (.double (0 : UInt64)), .second, .val (.double (0 : UInt64)), .second, .val (.double (0 : UInt64)), .second, .val (.double (FP.ddiv (FP.l2d (((2 : Int64) * ((p3 >>> ((10 : Int32) &&& 31)).toInt64)) + (1 : Int64))) (FP.i2d (2 : Int32)))), .second, .val (.double (FP.ddiv (FP.l2d p1) (FP.i2d (1 : Int32)))), .second, .unset, .unset] [(.double (FP.dadd (FP.i2d (p3 >>> ((10 : Int32) &&& 31))) (4602678819172646912 : UInt64))), (.double (FP.ddiv (FP.l2d (((2 : Int64) * ((p3 >>> ((10 : Int32) &&& 31)).toInt64)) + (1 : Int64))) (FP.i2d (2 : Int32))))])) _
      refine XS.dcmpS X24.here hx rfl (hb hby at_117) rfl (v := (cmpValue (FP.dcmp (FP.ddiv (FP.l2d (((2 : Int64) * ((p3 >>> ((10 : Int32) &&& 31)).toInt64)) + (1 : Int64))) (FP.i2d (2 : Int32))) (FP.dadd (FP.i2d (p3 >>> ((10 : Int32) &&& 31))) (4602678819172646912 : UInt64))) .l)) rfl ?_
      show Steps p.tables e below (T24.setTop (mkF m 118 #[.val (.int p0), .val (.long p1), .second, .val (.long p2), .second, .val (.int p3), .val (.int p4), .val (.int (p3 >>> ((10 : Int32) &&& 31))), .val (.double (0 : UInt64)), .second, .val (.double (0 : UInt64)), .second, .val (.double (0 : UInt64)), .second, .val (.double (FP.ddiv (FP.l2d (((2 : Int64) * ((p3 >>> ((10 : Int32) &&& 31)).toInt64)) + (1 : Int64))) (FP.i2d (2 : Int32)))), .second, .val (.double (FP.ddiv (FP.l2d p1) (FP.i2d (1 : Int32)))), .second, .unset, .unset] [(.int (cmpValue (FP.dcmp (FP.ddiv (FP.l2d (((2 : Int64) * ((p3 >>> ((10 : Int32) &&& 31)).toInt64)) + (1 : Int64))) (FP.i2d (2 : Int32))) (FP.dadd (FP.i2d (p3 >>> ((10 : Int32) &&& 31))) (4602678819172646912 : UInt64))) .l))])) _
      refine XS.ifNo X24.here hx rfl (hb hby at_118) rfl ((if0 _ _).trans (teq (own_ceq (own_avF _ (by decide)).ne (own_half (own_small p3)).2.ne (own_half (own_small p3)).1 .l)).2) ?_
      show Steps p.tables e below (T24.setTop (mkF m 121 #[.val (.int p0), .val (.long p1), .second, .val (.long p2), .second, .val (.int p3), .val (.int p4), .val (.int (p3 >>> ((10 : Int32) &&& 31))), .val (.double (0 : UInt64)), .second, .val (.double (0 : UInt64)), .second, .val (.double (0 : UInt64)), .second, .val (.double (FP.ddiv (FP.l2d (((2 : Int64) * ((p3 >>> ((10 : Int32) &&& 31)).toInt64)) + (1 : Int64))) (FP.i2d (2 : Int32)))), .second, .val (.double (FP.ddiv (FP.l2d p1) (FP.i2d (1 : Int32)))), .second, .unset, .unset] [])) _
      refine XS.iconst X24.here hx rfl (hb hby at_121) ?_
      show Steps p.tables e below (T24.setTop (mkF m 122 #[.val (.int p0), .val (.long p1), .second, .val (.long p2), .second, .val (.int p3), .val (.int p4), .val (.int (p3 >>> ((10 : Int32) &&& 31))), .val (.double (0 : UInt64)), .second, .val (.double (0 : UInt64)), .second, .val (.double (0 : UInt64)), .second, .val (.double (FP.ddiv (FP.l2d (((2 : Int64) * ((p3 >>> ((10 : Int32) &&& 31)).toInt64)) + (1 : Int64))) (FP.i2d (2 : Int32)))), .second, .val (.double (FP.ddiv (FP.l2d p1) (FP.i2d (1 : Int32)))), .second, .unset, .unset] [(.int (1 : Int32))])) _
      refine XS.goto X24.here hx rfl (pc0 := 122) (pc' := 126) rfl (hb hby at_122) (by decide) (by decide) ?_
      show Steps p.tables e below (T24.setTop (mkF m 126 #[.val (.int p0), .val (.long p1), .second, .val (.long p2), .second, .val (.int p3), .val (.int p4), .val (.int (p3 >>> ((10 : Int32) &&& 31))), .val (.double (0 : UInt64)), .second, .val (.double (0 : UInt64)), .second, .val (.double (0 : UInt64)), .second, .val (.double (FP.ddiv (FP.l2d (((2 : Int64) * ((p3 >>> ((10 : Int32) &&& 31)).toInt64)) + (1 : Int64))) (FP.i2d (2 : Int32)))), .second, .val (.double (FP.ddiv (FP.l2d p1) (FP.i2d (1 : Int32)))), .second, .unset, .unset] [(.int (1 : Int32))])) _
      refine XS.istore X24.here hx rfl (hb hby at_126) rfl (l' := #[.val (.int p0), .val (.long p1), .second, .val (.long p2), .second, .val (.int p3), .val (.int p4), .val (.int (p3 >>> ((10 : Int32) &&& 31))), .val (.double (0 : UInt64)), .second, .val (.double (0 : UInt64)), .second, .val (.double (0 : UInt64)), .second, .val (.double (FP.ddiv (FP.l2d (((2 : Int64) * ((p3 >>> ((10 : Int32) &&& 31)).toInt64)) + (1 : Int64))) (FP.i2d (2 : Int32)))), .second, .val (.double (FP.ddiv (FP.l2d p1) (FP.i2d (1 : Int32)))), .second, .val (.int (1 : Int32)), .unset]) rfl ?_
      show Steps p.tables e below (T24.setTop (mkF m 128 #[.val (.int p0), .val (.long p1), .second, .val (.long p2), .second, .val (.int p3), .val (.int p4), .val (.int (p3 >>> ((10 : Int32) &&& 31))), .val (.double (0 : UInt64)), .second, .val (.double (0 : UInt64)), .second, .val (.double (0 : UInt64)), .second, .val (.double (FP.ddiv (FP.l2d (((2 : Int64) * ((p3 >>> ((10 : Int32) &&& 31)).toInt64)) + (1 : Int64))) (FP.i2d (2 : Int32)))), .second, .val (.double (FP.ddiv (FP.l2d p1) (FP.i2d (1 : Int32)))), .second, .val (.int (1 : Int32)), .unset] [])) _
      refine XS.iloadN X24.here hx rfl (hb hby at_128) rfl ?_
      show Steps p.tables e below (T24.setTop (mkF m 129 #[.val (.int p0), .val (.long p1), .second, .val (.long p2), .second, .val (.int p3), .val (.int p4), .val (.int (p3 >>> ((10 : Int32) &&& 31))), .val (.double (0 : UInt64)), .second, .val (.double (0 : UInt64)), .second, .val (.double (0 : UInt64)), .second, .val (.double (FP.ddiv (FP.l2d (((2 : Int64) * ((p3 >>> ((10 : Int32) &&& 31)).toInt64)) + (1 : Int64))) (FP.i2d (2 : Int32)))), .second, .val (.double (FP.ddiv (FP.l2d p1) (FP.i2d (1 : Int32)))), .second, .val (.int (1 : Int32)), .unset] [(.int p0)])) _
      refine XS.ifNo X24.here hx rfl (hb hby at_129) rfl ((if0 _ _).trans (teq hd0).2) ?_
      show Steps p.tables e below (T24.setTop (mkF m 132 #[.val (.int p0), .val (.long p1), .second, .val (.long p2), .second, .val (.int p3), .val (.int p4), .val (.int (p3 >>> ((10 : Int32) &&& 31))), .val (.double (0 : UInt64)), .second, .val (.double (0 : UInt64)), .second, .val (.double (0 : UInt64)), .second, .val (.double (FP.ddiv (FP.l2d (((2 : Int64) * ((p3 >>> ((10 : Int32) &&& 31)).toInt64)) + (1 : Int64))) (FP.i2d (2 : Int32)))), .second, .val (.double (FP.ddiv (FP.l2d p1) (FP.i2d (1 : Int32)))), .second, .val (.int (1 : Int32)), .unset] [])) _
      refine XS.iload X24.here hx rfl (hb hby at_132) rfl ?_
      show Steps p.tables e below (T24.setTop (mkF m 134 #[.val (.int p0), .val (.long p1), .second, .val (.long p2), .second, .val (.int p3), .val (.int p4), .val (.int (p3 >>> ((10 : Int32) &&& 31))), .val (.double (0 : UInt64)), .second, .val (.double (0 : UInt64)), .second, .val (.double (0 : UInt64)), .second, .val (.double (FP.ddiv (FP.l2d (((2 : Int64) * ((p3 >>> ((10 : Int32) &&& 31)).toInt64)) + (1 : Int64))) (FP.i2d (2 : Int32)))), .second, .val (.double (FP.ddiv (FP.l2d p1) (FP.i2d (1 : Int32)))), .second, .val (.int (1 : Int32)), .unset] [(.int (1 : Int32))])) _
      refine XS.ifNo X24.here hx rfl (hb hby at_134) rfl (by decide) ?_
      show Steps p.tables e below (T24.setTop (mkF m 137 #[.val (.int p0), .val (.long p1), .second, .val (.long p2), .second, .val (.int p3), .val (.int p4), .val (.int (p3 >>> ((10 : Int32) &&& 31))), .val (.double (0 : UInt64)), .second, .val (.double (0 : UInt64)), .second, .val (.double (0 : UInt64)), .second, .val (.double (FP.ddiv (FP.l2d (((2 : Int64) * ((p3 >>> ((10 : Int32) &&& 31)).toInt64)) + (1 : Int64))) (FP.i2d (2 : Int32)))), .second, .val (.double (FP.ddiv (FP.l2d p1) (FP.i2d (1 : Int32)))), .second, .val (.int (1 : Int32)), .unset] [])) _
      refine XS.dload X24.here hx rfl (hb hby at_137) rfl ?_
      show Steps p.tables e below (T24.setTop (mkF m 139 #[.val (.int p0), .val (.long p1), .second, .val (.long p2), .second, .val (.int p3), .val (.int p4), .val (.int (p3 >>> ((10 : Int32) &&& 31))), .val (.double (0 : UInt64)), .second, .val (.double (0 : UInt64)), .second, .val (.double (0 : UInt64)), .second, .val (.double (FP.ddiv (FP.l2d (((2 : Int64) * ((p3 >>> ((10 : Int32) &&& 31)).toInt64)) + (1 : Int64))) (FP.i2d (2 : Int32)))), .second, .val (.double (FP.ddiv (FP.l2d p1) (FP.i2d (1 : Int32)))), .second, .val (.int (1 : Int32)), .unset] [(.double (0 : UInt64))])) _
      refine XS.dconst0 X24.here hx rfl (hb hby at_139) (v := (0 : UInt64)) rfl ?_
      show Steps p.tables e below (T24.setTop (mkF m 140 #[.val (.int p0), .val (.long p1), .second, .val (.long p2), .second, .val (.int p3), .val (.int p4), .val (.int (p3 >>> ((10 : Int32) &&& 31))), .val (.double (0 : UInt64)), .second, .val (.double (0 : UInt64)), .second, .val (.double (0 : UInt64)), .second, .val (.double (FP.ddiv (FP.l2d (((2 : Int64) * ((p3 >>> ((10 : Int32) &&& 31)).toInt64)) + (1 : Int64))) (FP.i2d (2 : Int32)))), .second, .val (.double (FP.ddiv (FP.l2d p1) (FP.i2d (1 : Int32)))), .second, .val (.int (1 : Int32)), .unset] [(.double (0 : UInt64)), (.double (0 : UInt64))])) _
      refine XS.dcmpS X24.here hx rfl (hb hby at_140) rfl (v := (0 : Int32)) (dcmpV_self own_zero .l) ?_
      show Steps p.tables e below (T24.setTop (mkF m 141 #[.val (.int p0), .val (.long p1), .second, .val (.long p2), .second, .val (.int p3), .val (.int p4), .val (.int (p3 >>> ((10 : Int32) &&& 31))), .val (.double (0 : UInt64)), .second, .val (.double (0 : UInt64)), .second, .val (.double (0 : UInt64)), .second, .val (.double (FP.ddiv (FP.l2d (((2 : Int64) * ((p3 >>> ((10 : Int32) &&& 31)).toInt64)) + (1 : Int64))) (FP.i2d (2 : Int32)))), .second, .val (.double (FP.ddiv (FP.l2d p1) (FP.i2d (1 : Int32)))), .second, .val (.int (1 : Int32)), .unset] [(.int (0 : Int32))])) _
      refine XS.ifNo X24.here hx rfl (hb hby at_141) rfl (by decide) ?_
      show Steps p.tables e below (T24.setTop (mkF m 144 #[.val (.int p0), .val (.long p1), .second, .val (.long p2), .second, .val (.int p3), .val (.int p4), .val (.int (p3 >>> ((10 : Int32) &&& 31))), .val (.double (0 : UInt64)), .second, .val (.double (0 : UInt64)), .second, .val (.double (0 : UInt64)), .second, .val (.double (FP.ddiv (FP.l2d (((2 : Int64) * ((p3 >>> ((10 : Int32) &&& 31)).toInt64)) + (1 : Int64))) (FP.i2d (2 : Int32)))), .second, .val (.double (FP.ddiv (FP.l2d p1) (FP.i2d (1 : Int32)))), .second, .val (.int (1 : Int32)), .unset] [])) _
      refine XS.dload X24.here hx rfl (hb hby at_144) rfl ?_
      show Steps p.tables e below (T24.setTop (mkF m 146 #[.val (.int p0), .val (.long p1), .second, .val (.long p2), .second, .val (.int p3), .val (.int p4), .val (.int (p3 >>> ((10 : Int32) &&& 31))), .val (.double (0 : UInt64)), .second, .val (.double (0 : UInt64)), .second, .val (.double (0 : UInt64)), .second, .val (.double (FP.ddiv (FP.l2d (((2 : Int64) * ((p3 >>> ((10 : Int32) &&& 31)).toInt64)) + (1 : Int64))) (FP.i2d (2 : Int32)))), .second, .val (.double (FP.ddiv (FP.l2d p1) (FP.i2d (1 : Int32)))), .second, .val (.int (1 : Int32)), .unset] [(.double (0 : UInt64))])) _
      refine XS.dconst0 X24.here hx rfl (hb hby at_146) (v := (0 : UInt64)) rfl ?_
      show Steps p.tables e below (T24.setTop (mkF m 147 #[.val (.int p0), .val (.long p1), .second, .val (.long p2), .second, .val (.int p3), .val (.int p4), .val (.int (p3 >>> ((10 : Int32) &&& 31))), .val (.double (0 : UInt64)), .second, .val (.double (0 : UInt64)), .second, .val (.double (0 : UInt64)), .second, .val (.double (FP.ddiv (FP.l2d (((2 : Int64) * ((p3 >>> ((10 : Int32) &&& 31)).toInt64)) + (1 : Int64))) (FP.i2d (2 : Int32)))), .second, .val (.double (FP.ddiv (FP.l2d p1) (FP.i2d (1 : Int32)))), .second, .val (.int (1 : Int32)), .unset] [(.double (0 : UInt64)), (.double (0 : UInt64))])) _
      refine XS.dcmpS X24.here hx rfl (hb hby at_147) rfl (v := (0 : Int32)) (dcmpV_self own_zero .l) ?_
      show Steps p.tables e below (T24.setTop (mkF m 148 #[.val (.int p0), .val (.long p1), .second, .val (.long p2), .second, .val (.int p3), .val (.int p4), .val (.int (p3 >>> ((10 : Int32) &&& 31))), .val (.double (0 : UInt64)), .second, .val (.double (0 : UInt64)), .second, .val (.double (0 : UInt64)), .second, .val (.double (FP.ddiv (FP.l2d (((2 : Int64) * ((p3 >>> ((10 : Int32) &&& 31)).toInt64)) + (1 : Int64))) (FP.i2d (2 : Int32)))), .second, .val (.double (FP.ddiv (FP.l2d p1) (FP.i2d (1 : Int32)))), .second, .val (.int (1 : Int32)), .unset] [(.int (0 : Int32))])) _
      refine XS.ifNo X24.here hx rfl (hb hby at_148) rfl (by decide) ?_
      show Steps p.tables e below (T24.setTop (mkF m 151 #[.val (.int p0), .val (.long p1), .second, .val (.long p2), .second, .val (.int p3), .val (.int p4), .val (.int (p3 >>> ((10 : Int32) &&& 31))), .val (.double (0 : UInt64)), .second, .val (.double (0 : UInt64)), .second, .val (.double (0 : UInt64)), .second, .val (.double (FP.ddiv (FP.l2d (((2 : Int64) * ((p3 >>> ((10 : Int32) &&& 31)).toInt64)) + (1 : Int64))) (FP.i2d (2 : Int32)))), .second, .val (.double (FP.ddiv (FP.l2d p1) (FP.i2d (1 : Int32)))), .second, .val (.int (1 : Int32)), .unset] [])) _
      refine XS.dload X24.here hx rfl (hb hby at_151) rfl ?_
      show Steps p.tables e below (T24.setTop (mkF m 153 #[.val (.int p0), .val (.long p1), .second, .val (.long p2), .second, .val (.int p3), .val (.int p4), .val (.int (p3 >>> ((10 : Int32) &&& 31))), .val (.double (0 : UInt64)), .second, .val (.double (0 : UInt64)), .second, .val (.double (0 : UInt64)), .second, .val (.double (FP.ddiv (FP.l2d (((2 : Int64) * ((p3 >>> ((10 : Int32) &&& 31)).toInt64)) + (1 : Int64))) (FP.i2d (2 : Int32)))), .second, .val (.double (FP.ddiv (FP.l2d p1) (FP.i2d (1 : Int32)))), .second, .val (.int (1 : Int32)), .unset] [(.double (0 : UInt64))])) _
      refine XS.dconst0 X24.here hx rfl (hb hby at_153) (v := (0 : UInt64)) rfl ?_
      show Steps p.tables e below (T24.setTop (mkF m 154 #[.val (.int p0), .val (.long p1), .second, .val (.long p2), .second, .val (.int p3), .val (.int p4), .val (.int (p3 >>> ((10 : Int32) &&& 31))), .val (.double (0 : UInt64)), .second, .val (.double (0 : UInt64)), .second, .val (.double (0 : UInt64)), .second, .val (.double (FP.ddiv (FP.l2d (((2 : Int64) * ((p3 >>> ((10 : Int32) &&& 31)).toInt64)) + (1 : Int64))) (FP.i2d (2 : Int32)))), .second, .val (.double (FP.ddiv (FP.l2d p1) (FP.i2d (1 : Int32)))), .second, .val (.int (1 : Int32)), .unset] [(.double (0 : UInt64)), (.double (0 : UInt64))])) _
      refine XS.dcmpS X24.here hx rfl (hb hby at_154) rfl (v := (0 : Int32)) (dcmpV_self own_zero .l) ?_
      show Steps p.tables e below (T24.setTop (mkF m 155 #[.val (.int p0), .val (.long p1), .second, .val (.long p2), .second, .val (.int p3), .val (.int p4), .val (.int (p3 >>> ((10 : Int32) &&& 31))), .val (.double (0 : UInt64)), .second, .val (.double (0 : UInt64)), .second, .val (.double (0 : UInt64)), .second, .val (.double (FP.ddiv (FP.l2d (((2 : Int64) * ((p3 >>> ((10 : Int32) &&& 31)).toInt64)) + (1 : Int64))) (FP.i2d (2 : Int32)))), .second, .val (.double (FP.ddiv (FP.l2d p1) (FP.i2d (1 : Int32)))), .second, .val (.int (1 : Int32)), .unset] [(.int (0 : Int32))])) _
      refine XS.ifNo X24.here hx rfl (hb hby at_155) rfl (by decide) ?_
      show Steps p.tables e below (T24.setTop (mkF m 158 #[.val (.int p0), .val (.long p1), .second, .val (.long p2), .second, .val (.int p3), .val (.int p4), .val (.int (p3 >>> ((10 : Int32) &&& 31))), .val (.double (0 : UInt64)), .second, .val (.double (0 : UInt64)), .second, .val (.double (0 : UInt64)), .second, .val (.double (FP.ddiv (FP.l2d (((2 : Int64) * ((p3 >>> ((10 : Int32) &&& 31)).toInt64)) + (1 : Int64))) (FP.i2d (2 : Int32)))), .second, .val (.double (FP.ddiv (FP.l2d p1) (FP.i2d (1 : Int32)))), .second, .val (.int (1 : Int32)), .unset] [])) _
      refine XS.iconst X24.here hx rfl (hb hby at_158) ?_
      show Steps p.tables e below (T24.setTop (mkF m 159 #[.val (.int p0), .val (.long p1), .second, .val (.long p2), .second, .val (.int p3), .val (.int p4), .val (.int (p3 >>> ((10 : Int32) &&& 31))), .val (.double (0 : UInt64)), .second, .val (.double (0 : UInt64)), .second, .val (.double (0 : UInt64)), .second, .val (.double (FP.ddiv (FP.l2d (((2 : Int64) * ((p3 >>> ((10 : Int32) &&& 31)).toInt64)) + (1 : Int64))) (FP.i2d (2 : Int32)))), .second, .val (.double (FP.ddiv (FP.l2d p1) (FP.i2d (1 : Int32)))), .second, .val (.int (1 : Int32)), .unset] [(.int (1 : Int32))])) _
      refine XS.goto X24.here hx rfl (pc0 := 159) (pc' := 163) rfl (hb hby at_159) (by decide) (by decide) ?_
      show Steps p.tables e below (T24.setTop (mkF m 163 #[.val (.int p0), .val (.long p1), .second, .val (.long p2), .second, .val (.int p3), .val (.int p4), .val (.int (p3 >>> ((10 : Int32) &&& 31))), .val (.double (0 : UInt64)), .second, .val (.double (0 : UInt64)), .second, .val (.double (0 : UInt64)), .second, .val (.double (FP.ddiv (FP.l2d (((2 : Int64) * ((p3 >>> ((10 : Int32) &&& 31)).toInt64)) + (1 : Int64))) (FP.i2d (2 : Int32)))), .second, .val (.double (FP.ddiv (FP.l2d p1) (FP.i2d (1 : Int32)))), .second, .val (.int (1 : Int32)), .unset] [(.int (1 : Int32))])) _
      exact retN X24 hx (t := .boolean) Bd.returns (by simp) (hb hby at_163) hr
    · show Q0 Z p0 p1 p2 p3 p4 h0 n0 _ T24.heap _
      rw [eh24]
      exact ⟨N24, rfl⟩
  · skip
    obtain ⟨T26, h26, X26, e26, E26, A26, D26, -, st26⟩ := newO X0 hx hZ hown (own_k hw 0 rfl) (own_k hw 1 rfl) (own_k hw 2 rfl) e0 (g := (mkF m 7 #[.val (.int p0), .val (.long p1), .second, .val (.long p2), .second, .val (.int p3), .val (.int p4), .val (.int (p3 >>> ((10 : Int32) &&& 31))), .unset, .unset, .unset, .unset, .unset, .unset, .unset, .unset, .unset, .unset, .unset, .unset] [])) rfl (hb hby at_7) (by decide) (by decide)
    obtain ⟨b26, g26⟩ : ∃ z, z = h0.size := ⟨_, rfl⟩
    rw [← g26] at A26 D26 st26
    have g_b26 : n0 ≤ b26 := Nat.le_trans Z0 (Nat.le_of_eq g26.symm)
    have F26_documents : Fld Z h26 b26 "com/example/herault/herault/index/IndexStatistics" "documents" "I" (.int (0 : Int32)) := D26 (Or.inr (own_k hw 15 rfl)) (ty := .int) (by decide)
    have F26_tokens : Fld Z h26 b26 "com/example/herault/herault/index/IndexStatistics" "tokens" "J" (.long (0 : Int64)) := D26 (Or.inr (own_k hw 17 rfl)) (ty := .long) (by decide)
    have F26_terms : Fld Z h26 b26 "com/example/herault/herault/index/IndexStatistics" "terms" "I" (.int (0 : Int32)) := D26 (Or.inr (own_k hw 19 rfl)) (ty := .int) (by decide)
    have f28 : n0 ≤ h26.size := (Nat.le_trans Z0 E26.1)
    obtain ⟨_, _, ⟨T27, L27, k27, n27⟩, -, X27, ⟨Lc27, hQ27, l27, y27, z27⟩, st27⟩ := X26.specialBack hx (y := (⟨"com/example/herault/herault/index/IndexStatistics", "<init>", "(IJI)V"⟩ : MethodName)) rfl hown (mvT hZ (own_k hw 3 rfl)) (mvT hZ (own_k hw 4 rfl)) (mvT hZ (own_k hw 5 rfl)) (by decide) (backOf (W := 1) (rmInit l Z a0 hw [] b26 p0 p1 p4 h26 n0 f28 A26 F26_documents F26_tokens F26_terms g_b26) hZ (own_k hw 5 rfl) (own_k hw 2 rfl) (by decide) (by decide)) (g := (mkF m 15 #[.val (.int p0), .val (.long p1), .second, .val (.long p2), .second, .val (.int p3), .val (.int p4), .val (.int (p3 >>> ((10 : Int32) &&& 31))), .unset, .unset, .unset, .unset, .unset, .unset, .unset, .unset, .unset, .unset, .unset, .unset] [(.int p4), (.long p1), (.int p0), (.ref b26), (.ref b26)])) rfl (by rw [hml]; rfl) (Steps.refl _) (a := b26) (argsL := [(.int p0), (.long p1), (.int p4)]) (rest := [(.ref b26)]) (lenOf own_pd_1 rfl) rfl (by show 2 * 0 + _ ≤ _; exact Nat.le_of_eq rfl) (hb hby at_15) (fun _ _ => ⟨rfl, e26, (by decide : 1 + 0 ≤ _), (by decide : 3 + 0 ≤ _)⟩)
    dsimp only [Pt.U, Pt.locs, Pt.cells, Pt.slots] at X27 l27 y27 z27 st27 hQ27
    subst l27 y27 z27
    obtain ⟨Nq27, Kq27, p27_0, p27_1, p27_2, hv27⟩ := hQ27
    have N27 := Fr.app N0 Nq27
    subst hv27
    have f30 : n0 ≤ T27.heap.size := (Nat.le_trans f28 Kq27.1)
    obtain ⟨cq29, kq29, q29a, q29b, q29c⟩ := isOf hZ rfl p27_0
    obtain ⟨_, _, ⟨T29, L29, k29, n29⟩, -, X29, ⟨Lc29, hQ29, l29, y29, z29⟩, st29⟩ := X27.virtualBack hx (y := (⟨"com/example/herault/herault/index/IndexStatistics", "averageDocumentLength", "()D"⟩ : MethodName)) (z := (⟨"com/example/herault/herault/index/IndexStatistics", "averageDocumentLength", "()D"⟩ : MethodName)) hown (mvT hZ (own_k hw 20 rfl)) (mvT hZ (own_k hw 21 rfl)) (notFace_of_selects (args := #[]) (mvT hZ (own_k hw 23 rfl))) (mvT hZ (own_k hw 23 rfl)) (mvT hZ (own_k hw 22 rfl)) (by decide) (backOf (W := 0) (rmAv0 l Z a0 hw [] b26 p0 p1 T27.heap n0 f30 p27_1 p27_2 (hd0)) hZ (own_k hw 24 rfl) (own_k hw 2 rfl) (by decide) (by decide)) q29a q29c (g := (mkF m 18 #[.val (.int p0), .val (.long p1), .second, .val (.long p2), .second, .val (.int p3), .val (.int p4), .val (.int (p3 >>> ((10 : Int32) &&& 31))), .unset, .unset, .unset, .unset, .unset, .unset, .unset, .unset, .unset, .unset, .unset, .unset] [(.ref b26)])) rfl (by rw [hml]; rfl) (Steps.refl _) (argsL := []) (rest := []) (lenOf own_pd_2 rfl) rfl (by show 2 * 0 + _ ≤ _; exact Nat.le_of_eq rfl) (hb hby at_18) (fun _ _ => ⟨rfl, rfl, (by decide : 1 + 0 ≤ _), (by decide : 3 + 0 ≤ _)⟩)
    dsimp only [Pt.U, Pt.locs, Pt.cells, Pt.slots] at X29 l29 y29 z29 st29 hQ29
    subst l29 y29 z29
    obtain ⟨Nq29, eh29, hv29⟩ := hQ29
    have N29 := Fr.app N27 Nq29
    subst hv29
    obtain ⟨T31, h31, X31, e31, E31, A31, D31, -, st31⟩ := newO X29 hx hZ hown (own_k hw 0 rfl) (own_k hw 1 rfl) (own_k hw 2 rfl) eh29 (g := (mkF m 23 #[.val (.int p0), .val (.long p1), .second, .val (.long p2), .second, .val (.int p3), .val (.int p4), .val (.int (p3 >>> ((10 : Int32) &&& 31))), .val (.double (FP.ddiv (FP.l2d p1) (FP.i2d p0))), .second, .unset, .unset, .unset, .unset, .unset, .unset, .unset, .unset, .unset, .unset] [])) rfl (hb hby at_23) (by decide) (by decide)
    obtain ⟨b31, g31⟩ : ∃ z, z = T27.heap.size := ⟨_, rfl⟩
    rw [← g31] at A31 D31 st31
    have g_b31 : n0 ≤ b31 := Nat.le_trans f30 (Nat.le_of_eq g31.symm)
    have F31_documents : Fld Z h31 b31 "com/example/herault/herault/index/IndexStatistics" "documents" "I" (.int (0 : Int32)) := D31 (Or.inr (own_k hw 15 rfl)) (ty := .int) (by decide)
    have F31_tokens : Fld Z h31 b31 "com/example/herault/herault/index/IndexStatistics" "tokens" "J" (.long (0 : Int64)) := D31 (Or.inr (own_k hw 17 rfl)) (ty := .long) (by decide)
    have F31_terms : Fld Z h31 b31 "com/example/herault/herault/index/IndexStatistics" "terms" "I" (.int (0 : Int32)) := D31 (Or.inr (own_k hw 19 rfl)) (ty := .int) (by decide)
    have f33 : n0 ≤ h31.size := (Nat.le_trans f30 E31.1)
    obtain ⟨_, _, ⟨T32, L32, k32, n32⟩, -, X32, ⟨Lc32, hQ32, l32, y32, z32⟩, st32⟩ := X31.specialBack hx (y := (⟨"com/example/herault/herault/index/IndexStatistics", "<init>", "(IJI)V"⟩ : MethodName)) rfl hown (mvT hZ (own_k hw 3 rfl)) (mvT hZ (own_k hw 4 rfl)) (mvT hZ (own_k hw 5 rfl)) (by decide) (backOf (W := 1) (rmInit l Z a0 hw [] b31 p0 p2 p4 h31 n0 f33 A31 F31_documents F31_tokens F31_terms g_b31) hZ (own_k hw 5 rfl) (own_k hw 2 rfl) (by decide) (by decide)) (g := (mkF m 31 #[.val (.int p0), .val (.long p1), .second, .val (.long p2), .second, .val (.int p3), .val (.int p4), .val (.int (p3 >>> ((10 : Int32) &&& 31))), .val (.double (FP.ddiv (FP.l2d p1) (FP.i2d p0))), .second, .unset, .unset, .unset, .unset, .unset, .unset, .unset, .unset, .unset, .unset] [(.int p4), (.long p2), (.int p0), (.ref b31), (.ref b31)])) rfl (by rw [hml]; rfl) (Steps.refl _) (a := b31) (argsL := [(.int p0), (.long p2), (.int p4)]) (rest := [(.ref b31)]) (lenOf own_pd_1 rfl) rfl (by show 2 * 0 + _ ≤ _; exact Nat.le_of_eq rfl) (hb hby at_31) (fun _ _ => ⟨rfl, e31, (by decide : 2 + 0 ≤ _), (by decide : 6 + 0 ≤ _)⟩)
    dsimp only [Pt.U, Pt.locs, Pt.cells, Pt.slots] at X32 l32 y32 z32 st32 hQ32
    subst l32 y32 z32
    obtain ⟨Nq32, Kq32, p32_0, p32_1, p32_2, hv32⟩ := hQ32
    have N32 := Fr.app N29 Nq32
    subst hv32
    have f35 : n0 ≤ T32.heap.size := (Nat.le_trans f33 Kq32.1)
    obtain ⟨cq34, kq34, q34a, q34b, q34c⟩ := isOf hZ rfl p32_0
    obtain ⟨_, _, ⟨T34, L34, k34, n34⟩, -, X34, ⟨Lc34, hQ34, l34, y34, z34⟩, st34⟩ := X32.virtualBack hx (y := (⟨"com/example/herault/herault/index/IndexStatistics", "averageDocumentLength", "()D"⟩ : MethodName)) (z := (⟨"com/example/herault/herault/index/IndexStatistics", "averageDocumentLength", "()D"⟩ : MethodName)) hown (mvT hZ (own_k hw 20 rfl)) (mvT hZ (own_k hw 21 rfl)) (notFace_of_selects (args := #[]) (mvT hZ (own_k hw 23 rfl))) (mvT hZ (own_k hw 23 rfl)) (mvT hZ (own_k hw 22 rfl)) (by decide) (backOf (W := 0) (rmAv0 l Z a0 hw [] b31 p0 p2 T32.heap n0 f35 p32_1 p32_2 (hd0)) hZ (own_k hw 24 rfl) (own_k hw 2 rfl) (by decide) (by decide)) q34a q34c (g := (mkF m 34 #[.val (.int p0), .val (.long p1), .second, .val (.long p2), .second, .val (.int p3), .val (.int p4), .val (.int (p3 >>> ((10 : Int32) &&& 31))), .val (.double (FP.ddiv (FP.l2d p1) (FP.i2d p0))), .second, .unset, .unset, .unset, .unset, .unset, .unset, .unset, .unset, .unset, .unset] [(.ref b31)])) rfl (by rw [hml]; rfl) (Steps.refl _) (argsL := []) (rest := []) (lenOf own_pd_2 rfl) rfl (by show 2 * 0 + _ ≤ _; exact Nat.le_of_eq rfl) (hb hby at_34) (fun _ _ => ⟨rfl, rfl, (by decide : 2 + 0 ≤ _), (by decide : 6 + 0 ≤ _)⟩)
    dsimp only [Pt.U, Pt.locs, Pt.cells, Pt.slots] at X34 l34 y34 z34 st34 hQ34
    subst l34 y34 z34
    obtain ⟨Nq34, eh34, hv34⟩ := hQ34
    have N34 := Fr.app N32 Nq34
    subst hv34
    obtain ⟨T36, h36, X36, e36, E36, A36, D36, -, st36⟩ := newO X34 hx hZ hown (own_k hw 0 rfl) (own_k hw 1 rfl) (own_k hw 2 rfl) eh34 (g := (mkF m 39 #[.val (.int p0), .val (.long p1), .second, .val (.long p2), .second, .val (.int p3), .val (.int p4), .val (.int (p3 >>> ((10 : Int32) &&& 31))), .val (.double (FP.ddiv (FP.l2d p1) (FP.i2d p0))), .second, .val (.double (FP.ddiv (FP.l2d p2) (FP.i2d p0))), .second, .unset, .unset, .unset, .unset, .unset, .unset, .unset, .unset] [])) rfl (hb hby at_39) (by decide) (by decide)
    obtain ⟨b36, g36⟩ : ∃ z, z = T32.heap.size := ⟨_, rfl⟩
    rw [← g36] at A36 D36 st36
    have g_b36 : n0 ≤ b36 := Nat.le_trans f35 (Nat.le_of_eq g36.symm)
    have F36_documents : Fld Z h36 b36 "com/example/herault/herault/index/IndexStatistics" "documents" "I" (.int (0 : Int32)) := D36 (Or.inr (own_k hw 15 rfl)) (ty := .int) (by decide)
    have F36_tokens : Fld Z h36 b36 "com/example/herault/herault/index/IndexStatistics" "tokens" "J" (.long (0 : Int64)) := D36 (Or.inr (own_k hw 17 rfl)) (ty := .long) (by decide)
    have F36_terms : Fld Z h36 b36 "com/example/herault/herault/index/IndexStatistics" "terms" "I" (.int (0 : Int32)) := D36 (Or.inr (own_k hw 19 rfl)) (ty := .int) (by decide)
    have f38 : n0 ≤ h36.size := (Nat.le_trans f35 E36.1)
    obtain ⟨_, _, ⟨T37, L37, k37, n37⟩, -, X37, ⟨Lc37, hQ37, l37, y37, z37⟩, st37⟩ := X36.specialBack hx (y := (⟨"com/example/herault/herault/index/IndexStatistics", "<init>", "(IJI)V"⟩ : MethodName)) rfl hown (mvT hZ (own_k hw 3 rfl)) (mvT hZ (own_k hw 4 rfl)) (mvT hZ (own_k hw 5 rfl)) (by decide) (backOf (W := 1) (rmInit l Z a0 hw [] b36 p0 (((p3 >>> ((10 : Int32) &&& 31)).toInt64) * (p0.toInt64)) p4 h36 n0 f38 A36 F36_documents F36_tokens F36_terms g_b36) hZ (own_k hw 5 rfl) (own_k hw 2 rfl) (by decide) (by decide)) (g := (mkF m 52 #[.val (.int p0), .val (.long p1), .second, .val (.long p2), .second, .val (.int p3), .val (.int p4), .val (.int (p3 >>> ((10 : Int32) &&& 31))), .val (.double (FP.ddiv (FP.l2d p1) (FP.i2d p0))), .second, .val (.double (FP.ddiv (FP.l2d p2) (FP.i2d p0))), .second, .unset, .unset, .unset, .unset, .unset, .unset, .unset, .unset] [(.int p4), (.long (((p3 >>> ((10 : Int32) &&& 31)).toInt64) * (p0.toInt64))), (.int p0), (.ref b36), (.ref b36)])) rfl (by rw [hml]; rfl) (Steps.refl _) (a := b36) (argsL := [(.int p0), (.long (((p3 >>> ((10 : Int32) &&& 31)).toInt64) * (p0.toInt64))), (.int p4)]) (rest := [(.ref b36)]) (lenOf own_pd_1 rfl) rfl (by show 2 * 0 + _ ≤ _; exact Nat.le_of_eq rfl) (hb hby at_52) (fun _ _ => ⟨rfl, e36, (by decide : 3 + 0 ≤ _), (by decide : 9 + 0 ≤ _)⟩)
    dsimp only [Pt.U, Pt.locs, Pt.cells, Pt.slots] at X37 l37 y37 z37 st37 hQ37
    subst l37 y37 z37
    obtain ⟨Nq37, Kq37, p37_0, p37_1, p37_2, hv37⟩ := hQ37
    have N37 := Fr.app N34 Nq37
    subst hv37
    have f40 : n0 ≤ T37.heap.size := (Nat.le_trans f38 Kq37.1)
    obtain ⟨cq39, kq39, q39a, q39b, q39c⟩ := isOf hZ rfl p37_0
    obtain ⟨_, _, ⟨T39, L39, k39, n39⟩, -, X39, ⟨Lc39, hQ39, l39, y39, z39⟩, st39⟩ := X37.virtualBack hx (y := (⟨"com/example/herault/herault/index/IndexStatistics", "averageDocumentLength", "()D"⟩ : MethodName)) (z := (⟨"com/example/herault/herault/index/IndexStatistics", "averageDocumentLength", "()D"⟩ : MethodName)) hown (mvT hZ (own_k hw 20 rfl)) (mvT hZ (own_k hw 21 rfl)) (notFace_of_selects (args := #[]) (mvT hZ (own_k hw 23 rfl))) (mvT hZ (own_k hw 23 rfl)) (mvT hZ (own_k hw 22 rfl)) (by decide) (backOf (W := 0) (rmAv0 l Z a0 hw [] b36 p0 (((p3 >>> ((10 : Int32) &&& 31)).toInt64) * (p0.toInt64)) T37.heap n0 f40 p37_1 p37_2 (hd0)) hZ (own_k hw 24 rfl) (own_k hw 2 rfl) (by decide) (by decide)) q39a q39c (g := (mkF m 55 #[.val (.int p0), .val (.long p1), .second, .val (.long p2), .second, .val (.int p3), .val (.int p4), .val (.int (p3 >>> ((10 : Int32) &&& 31))), .val (.double (FP.ddiv (FP.l2d p1) (FP.i2d p0))), .second, .val (.double (FP.ddiv (FP.l2d p2) (FP.i2d p0))), .second, .unset, .unset, .unset, .unset, .unset, .unset, .unset, .unset] [(.ref b36)])) rfl (by rw [hml]; rfl) (Steps.refl _) (argsL := []) (rest := []) (lenOf own_pd_2 rfl) rfl (by show 2 * 0 + _ ≤ _; exact Nat.le_of_eq rfl) (hb hby at_55) (fun _ _ => ⟨rfl, rfl, (by decide : 3 + 0 ≤ _), (by decide : 9 + 0 ≤ _)⟩)
    dsimp only [Pt.U, Pt.locs, Pt.cells, Pt.slots] at X39 l39 y39 z39 st39 hQ39
    subst l39 y39 z39
    obtain ⟨Nq39, eh39, hv39⟩ := hQ39
    have N39 := Fr.app N37 Nq39
    subst hv39
    obtain ⟨T41, h41, X41, e41, E41, A41, D41, -, st41⟩ := newO X39 hx hZ hown (own_k hw 0 rfl) (own_k hw 1 rfl) (own_k hw 2 rfl) eh39 (g := (mkF m 60 #[.val (.int p0), .val (.long p1), .second, .val (.long p2), .second, .val (.int p3), .val (.int p4), .val (.int (p3 >>> ((10 : Int32) &&& 31))), .val (.double (FP.ddiv (FP.l2d p1) (FP.i2d p0))), .second, .val (.double (FP.ddiv (FP.l2d p2) (FP.i2d p0))), .second, .val (.double (FP.ddiv (FP.l2d (((p3 >>> ((10 : Int32) &&& 31)).toInt64) * (p0.toInt64))) (FP.i2d p0))), .second, .unset, .unset, .unset, .unset, .unset, .unset] [])) rfl (hb hby at_60) (by decide) (by decide)
    obtain ⟨b41, g41⟩ : ∃ z, z = T37.heap.size := ⟨_, rfl⟩
    rw [← g41] at A41 D41 st41
    have g_b41 : n0 ≤ b41 := Nat.le_trans f40 (Nat.le_of_eq g41.symm)
    have F41_documents : Fld Z h41 b41 "com/example/herault/herault/index/IndexStatistics" "documents" "I" (.int (0 : Int32)) := D41 (Or.inr (own_k hw 15 rfl)) (ty := .int) (by decide)
    have F41_tokens : Fld Z h41 b41 "com/example/herault/herault/index/IndexStatistics" "tokens" "J" (.long (0 : Int64)) := D41 (Or.inr (own_k hw 17 rfl)) (ty := .long) (by decide)
    have F41_terms : Fld Z h41 b41 "com/example/herault/herault/index/IndexStatistics" "terms" "I" (.int (0 : Int32)) := D41 (Or.inr (own_k hw 19 rfl)) (ty := .int) (by decide)
    have f43 : n0 ≤ h41.size := (Nat.le_trans f40 E41.1)
    obtain ⟨_, _, ⟨T42, L42, k42, n42⟩, -, X42, ⟨Lc42, hQ42, l42, y42, z42⟩, st42⟩ := X41.specialBack hx (y := (⟨"com/example/herault/herault/index/IndexStatistics", "<init>", "(IJI)V"⟩ : MethodName)) rfl hown (mvT hZ (own_k hw 3 rfl)) (mvT hZ (own_k hw 4 rfl)) (mvT hZ (own_k hw 5 rfl)) (by decide) (backOf (W := 1) (rmInit l Z a0 hw [] b41 (2 : Int32) (((2 : Int64) * ((p3 >>> ((10 : Int32) &&& 31)).toInt64)) + (1 : Int64)) p4 h41 n0 f43 A41 F41_documents F41_tokens F41_terms g_b41) hZ (own_k hw 5 rfl) (own_k hw 2 rfl) (by decide) (by decide)) (g := (mkF m 76 #[.val (.int p0), .val (.long p1), .second, .val (.long p2), .second, .val (.int p3), .val (.int p4), .val (.int (p3 >>> ((10 : Int32) &&& 31))), .val (.double (FP.ddiv (FP.l2d p1) (FP.i2d p0))), .second, .val (.double (FP.ddiv (FP.l2d p2) (FP.i2d p0))), .second, .val (.double (FP.ddiv (FP.l2d (((p3 >>> ((10 : Int32) &&& 31)).toInt64) * (p0.toInt64))) (FP.i2d p0))), .second, .unset, .unset, .unset, .unset, .unset, .unset] [(.int p4), (.long (((2 : Int64) * ((p3 >>> ((10 : Int32) &&& 31)).toInt64)) + (1 : Int64))), (.int (2 : Int32)), (.ref b41), (.ref b41)])) rfl (by rw [hml]; rfl) (Steps.refl _) (a := b41) (argsL := [(.int (2 : Int32)), (.long (((2 : Int64) * ((p3 >>> ((10 : Int32) &&& 31)).toInt64)) + (1 : Int64))), (.int p4)]) (rest := [(.ref b41)]) (lenOf own_pd_1 rfl) rfl (by show 2 * 0 + _ ≤ _; exact Nat.le_of_eq rfl) (hb hby at_76) (fun _ _ => ⟨rfl, e41, (by decide : 4 + 0 ≤ _), (by decide : 12 + 0 ≤ _)⟩)
    dsimp only [Pt.U, Pt.locs, Pt.cells, Pt.slots] at X42 l42 y42 z42 st42 hQ42
    subst l42 y42 z42
    obtain ⟨Nq42, Kq42, p42_0, p42_1, p42_2, hv42⟩ := hQ42
    have N42 := Fr.app N39 Nq42
    subst hv42
    have f45 : n0 ≤ T42.heap.size := (Nat.le_trans f43 Kq42.1)
    obtain ⟨cq44, kq44, q44a, q44b, q44c⟩ := isOf hZ rfl p42_0
    obtain ⟨_, _, ⟨T44, L44, k44, n44⟩, -, X44, ⟨Lc44, hQ44, l44, y44, z44⟩, st44⟩ := X42.virtualBack hx (y := (⟨"com/example/herault/herault/index/IndexStatistics", "averageDocumentLength", "()D"⟩ : MethodName)) (z := (⟨"com/example/herault/herault/index/IndexStatistics", "averageDocumentLength", "()D"⟩ : MethodName)) hown (mvT hZ (own_k hw 20 rfl)) (mvT hZ (own_k hw 21 rfl)) (notFace_of_selects (args := #[]) (mvT hZ (own_k hw 23 rfl))) (mvT hZ (own_k hw 23 rfl)) (mvT hZ (own_k hw 22 rfl)) (by decide) (backOf (W := 0) (rmAv0 l Z a0 hw [] b41 (2 : Int32) (((2 : Int64) * ((p3 >>> ((10 : Int32) &&& 31)).toInt64)) + (1 : Int64)) T42.heap n0 f45 p42_1 p42_2 (by decide)) hZ (own_k hw 24 rfl) (own_k hw 2 rfl) (by decide) (by decide)) q44a q44c (g := (mkF m 79 #[.val (.int p0), .val (.long p1), .second, .val (.long p2), .second, .val (.int p3), .val (.int p4), .val (.int (p3 >>> ((10 : Int32) &&& 31))), .val (.double (FP.ddiv (FP.l2d p1) (FP.i2d p0))), .second, .val (.double (FP.ddiv (FP.l2d p2) (FP.i2d p0))), .second, .val (.double (FP.ddiv (FP.l2d (((p3 >>> ((10 : Int32) &&& 31)).toInt64) * (p0.toInt64))) (FP.i2d p0))), .second, .unset, .unset, .unset, .unset, .unset, .unset] [(.ref b41)])) rfl (by rw [hml]; rfl) (Steps.refl _) (argsL := []) (rest := []) (lenOf own_pd_2 rfl) rfl (by show 2 * 0 + _ ≤ _; exact Nat.le_of_eq rfl) (hb hby at_79) (fun _ _ => ⟨rfl, rfl, (by decide : 4 + 0 ≤ _), (by decide : 12 + 0 ≤ _)⟩)
    dsimp only [Pt.U, Pt.locs, Pt.cells, Pt.slots] at X44 l44 y44 z44 st44 hQ44
    subst l44 y44 z44
    obtain ⟨Nq44, eh44, hv44⟩ := hQ44
    have N44 := Fr.app N42 Nq44
    subst hv44
    obtain ⟨T46, h46, X46, e46, E46, A46, D46, -, st46⟩ := newO X44 hx hZ hown (own_k hw 0 rfl) (own_k hw 1 rfl) (own_k hw 2 rfl) eh44 (g := (mkF m 84 #[.val (.int p0), .val (.long p1), .second, .val (.long p2), .second, .val (.int p3), .val (.int p4), .val (.int (p3 >>> ((10 : Int32) &&& 31))), .val (.double (FP.ddiv (FP.l2d p1) (FP.i2d p0))), .second, .val (.double (FP.ddiv (FP.l2d p2) (FP.i2d p0))), .second, .val (.double (FP.ddiv (FP.l2d (((p3 >>> ((10 : Int32) &&& 31)).toInt64) * (p0.toInt64))) (FP.i2d p0))), .second, .val (.double (FP.ddiv (FP.l2d (((2 : Int64) * ((p3 >>> ((10 : Int32) &&& 31)).toInt64)) + (1 : Int64))) (FP.i2d (2 : Int32)))), .second, .unset, .unset, .unset, .unset] [])) rfl (hb hby at_84) (by decide) (by decide)
    obtain ⟨b46, g46⟩ : ∃ z, z = T42.heap.size := ⟨_, rfl⟩
    rw [← g46] at A46 D46 st46
    have g_b46 : n0 ≤ b46 := Nat.le_trans f45 (Nat.le_of_eq g46.symm)
    have F46_documents : Fld Z h46 b46 "com/example/herault/herault/index/IndexStatistics" "documents" "I" (.int (0 : Int32)) := D46 (Or.inr (own_k hw 15 rfl)) (ty := .int) (by decide)
    have F46_tokens : Fld Z h46 b46 "com/example/herault/herault/index/IndexStatistics" "tokens" "J" (.long (0 : Int64)) := D46 (Or.inr (own_k hw 17 rfl)) (ty := .long) (by decide)
    have F46_terms : Fld Z h46 b46 "com/example/herault/herault/index/IndexStatistics" "terms" "I" (.int (0 : Int32)) := D46 (Or.inr (own_k hw 19 rfl)) (ty := .int) (by decide)
    have f48 : n0 ≤ h46.size := (Nat.le_trans f45 E46.1)
    obtain ⟨_, _, ⟨T47, L47, k47, n47⟩, -, X47, ⟨Lc47, hQ47, l47, y47, z47⟩, st47⟩ := X46.specialBack hx (y := (⟨"com/example/herault/herault/index/IndexStatistics", "<init>", "(IJI)V"⟩ : MethodName)) rfl hown (mvT hZ (own_k hw 3 rfl)) (mvT hZ (own_k hw 4 rfl)) (mvT hZ (own_k hw 5 rfl)) (by decide) (backOf (W := 1) (rmInit l Z a0 hw [] b46 (1 : Int32) p1 p4 h46 n0 f48 A46 F46_documents F46_tokens F46_terms g_b46) hZ (own_k hw 5 rfl) (own_k hw 2 rfl) (by decide) (by decide)) (g := (mkF m 92 #[.val (.int p0), .val (.long p1), .second, .val (.long p2), .second, .val (.int p3), .val (.int p4), .val (.int (p3 >>> ((10 : Int32) &&& 31))), .val (.double (FP.ddiv (FP.l2d p1) (FP.i2d p0))), .second, .val (.double (FP.ddiv (FP.l2d p2) (FP.i2d p0))), .second, .val (.double (FP.ddiv (FP.l2d (((p3 >>> ((10 : Int32) &&& 31)).toInt64) * (p0.toInt64))) (FP.i2d p0))), .second, .val (.double (FP.ddiv (FP.l2d (((2 : Int64) * ((p3 >>> ((10 : Int32) &&& 31)).toInt64)) + (1 : Int64))) (FP.i2d (2 : Int32)))), .second, .unset, .unset, .unset, .unset] [(.int p4), (.long p1), (.int (1 : Int32)), (.ref b46), (.ref b46)])) rfl (by rw [hml]; rfl) (Steps.refl _) (a := b46) (argsL := [(.int (1 : Int32)), (.long p1), (.int p4)]) (rest := [(.ref b46)]) (lenOf own_pd_1 rfl) rfl (by show 2 * 0 + _ ≤ _; exact Nat.le_of_eq rfl) (hb hby at_92) (fun _ _ => ⟨rfl, e46, (by decide : 5 + 0 ≤ _), (by decide : 15 + 0 ≤ _)⟩)
    dsimp only [Pt.U, Pt.locs, Pt.cells, Pt.slots] at X47 l47 y47 z47 st47 hQ47
    subst l47 y47 z47
    obtain ⟨Nq47, Kq47, p47_0, p47_1, p47_2, hv47⟩ := hQ47
    have N47 := Fr.app N44 Nq47
    subst hv47
    have f50 : n0 ≤ T47.heap.size := (Nat.le_trans f48 Kq47.1)
    obtain ⟨cq49, kq49, q49a, q49b, q49c⟩ := isOf hZ rfl p47_0
    obtain ⟨_, _, ⟨T49, L49, k49, n49⟩, -, X49, ⟨Lc49, hQ49, l49, y49, z49⟩, st49⟩ := X47.virtualBack hx (y := (⟨"com/example/herault/herault/index/IndexStatistics", "averageDocumentLength", "()D"⟩ : MethodName)) (z := (⟨"com/example/herault/herault/index/IndexStatistics", "averageDocumentLength", "()D"⟩ : MethodName)) hown (mvT hZ (own_k hw 20 rfl)) (mvT hZ (own_k hw 21 rfl)) (notFace_of_selects (args := #[]) (mvT hZ (own_k hw 23 rfl))) (mvT hZ (own_k hw 23 rfl)) (mvT hZ (own_k hw 22 rfl)) (by decide) (backOf (W := 0) (rmAv0 l Z a0 hw [] b46 (1 : Int32) p1 T47.heap n0 f50 p47_1 p47_2 (by decide)) hZ (own_k hw 24 rfl) (own_k hw 2 rfl) (by decide) (by decide)) q49a q49c (g := (mkF m 95 #[.val (.int p0), .val (.long p1), .second, .val (.long p2), .second, .val (.int p3), .val (.int p4), .val (.int (p3 >>> ((10 : Int32) &&& 31))), .val (.double (FP.ddiv (FP.l2d p1) (FP.i2d p0))), .second, .val (.double (FP.ddiv (FP.l2d p2) (FP.i2d p0))), .second, .val (.double (FP.ddiv (FP.l2d (((p3 >>> ((10 : Int32) &&& 31)).toInt64) * (p0.toInt64))) (FP.i2d p0))), .second, .val (.double (FP.ddiv (FP.l2d (((2 : Int64) * ((p3 >>> ((10 : Int32) &&& 31)).toInt64)) + (1 : Int64))) (FP.i2d (2 : Int32)))), .second, .unset, .unset, .unset, .unset] [(.ref b46)])) rfl (by rw [hml]; rfl) (Steps.refl _) (argsL := []) (rest := []) (lenOf own_pd_2 rfl) rfl (by show 2 * 0 + _ ≤ _; exact Nat.le_of_eq rfl) (hb hby at_95) (fun _ _ => ⟨rfl, rfl, (by decide : 5 + 0 ≤ _), (by decide : 15 + 0 ≤ _)⟩)
    dsimp only [Pt.U, Pt.locs, Pt.cells, Pt.slots] at X49 l49 y49 z49 st49 hQ49
    subst l49 y49 z49
    obtain ⟨Nq49, eh49, hv49⟩ := hQ49
    have N49 := Fr.app N47 Nq49
    subst hv49
    have pre51 : ∀ t, Steps p.tables e below (T49.setTop (mkF m 186 #[.val (.int p0), .val (.long p1), .second, .val (.long p2), .second, .val (.int p3), .val (.int p4), .val (.int (p3 >>> ((10 : Int32) &&& 31))), .val (.double (FP.ddiv (FP.l2d p1) (FP.i2d p0))), .second, .val (.double (FP.ddiv (FP.l2d p2) (FP.i2d p0))), .second, .val (.double (FP.ddiv (FP.l2d (((p3 >>> ((10 : Int32) &&& 31)).toInt64) * (p0.toInt64))) (FP.i2d p0))), .second, .val (.double (FP.ddiv (FP.l2d (((2 : Int64) * ((p3 >>> ((10 : Int32) &&& 31)).toInt64)) + (1 : Int64))) (FP.i2d (2 : Int32)))), .second, .val (.double (FP.ddiv (FP.l2d p1) (FP.i2d (1 : Int32)))), .second, .val (.int (1 : Int32)), .unset] [(.int p0)])) t → Steps p.tables e below (s₁.setTop (entryFrame m #[(.int p0), (.long p1), (.long p2), (.int p3), (.int p4)] maxLocals)) t := fun t kt => pre0 t (by
      show Steps p.tables e below (s₁.setTop (mkF m 0 #[.val (.int p0), .val (.long p1), .second, .val (.long p2), .second, .val (.int p3), .val (.int p4), .unset, .unset, .unset, .unset, .unset, .unset, .unset, .unset, .unset, .unset, .unset, .unset, .unset] [])) _
      refine XS.iload X0.here hx rfl (hb hby at_0) rfl ?_
      show Steps p.tables e below (s₁.setTop (mkF m 2 #[.val (.int p0), .val (.long p1), .second, .val (.long p2), .second, .val (.int p3), .val (.int p4), .unset, .unset, .unset, .unset, .unset, .unset, .unset, .unset, .unset, .unset, .unset, .unset, .unset] [(.int p3)])) _
      refine XS.bipush X0.here hx rfl (hb hby at_2) ?_
      show Steps p.tables e below (s₁.setTop (mkF m 4 #[.val (.int p0), .val (.long p1), .second, .val (.long p2), .second, .val (.int p3), .val (.int p4), .unset, .unset, .unset, .unset, .unset, .unset, .unset, .unset, .unset, .unset, .unset, .unset, .unset] [(.int (10 : Int32)), (.int p3)])) _
      refine XS.ishr X0.here hx rfl (hb hby at_4) rfl ?_
      show Steps p.tables e below (s₁.setTop (mkF m 5 #[.val (.int p0), .val (.long p1), .second, .val (.long p2), .second, .val (.int p3), .val (.int p4), .unset, .unset, .unset, .unset, .unset, .unset, .unset, .unset, .unset, .unset, .unset, .unset, .unset] [(.int (p3 >>> ((10 : Int32) &&& 31)))])) _
      refine XS.istore X0.here hx rfl (hb hby at_5) rfl (l' := #[.val (.int p0), .val (.long p1), .second, .val (.long p2), .second, .val (.int p3), .val (.int p4), .val (.int (p3 >>> ((10 : Int32) &&& 31))), .unset, .unset, .unset, .unset, .unset, .unset, .unset, .unset, .unset, .unset, .unset, .unset]) rfl ?_
      show Steps p.tables e below (s₁.setTop (mkF m 7 #[.val (.int p0), .val (.long p1), .second, .val (.long p2), .second, .val (.int p3), .val (.int p4), .val (.int (p3 >>> ((10 : Int32) &&& 31))), .unset, .unset, .unset, .unset, .unset, .unset, .unset, .unset, .unset, .unset, .unset, .unset] [])) _
      refine st26 _ ?_
      show Steps p.tables e below (T26.setTop (mkF m 10 #[.val (.int p0), .val (.long p1), .second, .val (.long p2), .second, .val (.int p3), .val (.int p4), .val (.int (p3 >>> ((10 : Int32) &&& 31))), .unset, .unset, .unset, .unset, .unset, .unset, .unset, .unset, .unset, .unset, .unset, .unset] [(.ref b26)])) _
      refine XS.dup X26.here hx rfl (hb hby at_10) rfl rfl ?_
      show Steps p.tables e below (T26.setTop (mkF m 11 #[.val (.int p0), .val (.long p1), .second, .val (.long p2), .second, .val (.int p3), .val (.int p4), .val (.int (p3 >>> ((10 : Int32) &&& 31))), .unset, .unset, .unset, .unset, .unset, .unset, .unset, .unset, .unset, .unset, .unset, .unset] [(.ref b26), (.ref b26)])) _
      refine XS.iloadN X26.here hx rfl (hb hby at_11) rfl ?_
      show Steps p.tables e below (T26.setTop (mkF m 12 #[.val (.int p0), .val (.long p1), .second, .val (.long p2), .second, .val (.int p3), .val (.int p4), .val (.int (p3 >>> ((10 : Int32) &&& 31))), .unset, .unset, .unset, .unset, .unset, .unset, .unset, .unset, .unset, .unset, .unset, .unset] [(.int p0), (.ref b26), (.ref b26)])) _
      refine XS.lloadN X26.here hx rfl (hb hby at_12) rfl ?_
      show Steps p.tables e below (T26.setTop (mkF m 13 #[.val (.int p0), .val (.long p1), .second, .val (.long p2), .second, .val (.int p3), .val (.int p4), .val (.int (p3 >>> ((10 : Int32) &&& 31))), .unset, .unset, .unset, .unset, .unset, .unset, .unset, .unset, .unset, .unset, .unset, .unset] [(.long p1), (.int p0), (.ref b26), (.ref b26)])) _
      refine XS.iload X26.here hx rfl (hb hby at_13) rfl ?_
      show Steps p.tables e below (T26.setTop (mkF m 15 #[.val (.int p0), .val (.long p1), .second, .val (.long p2), .second, .val (.int p3), .val (.int p4), .val (.int (p3 >>> ((10 : Int32) &&& 31))), .unset, .unset, .unset, .unset, .unset, .unset, .unset, .unset, .unset, .unset, .unset, .unset] [(.int p4), (.long p1), (.int p0), (.ref b26), (.ref b26)])) _
      refine st27.trans ?_
      show Steps p.tables e below (T27.setTop (mkF m 18 #[.val (.int p0), .val (.long p1), .second, .val (.long p2), .second, .val (.int p3), .val (.int p4), .val (.int (p3 >>> ((10 : Int32) &&& 31))), .unset, .unset, .unset, .unset, .unset, .unset, .unset, .unset, .unset, .unset, .unset, .unset] [(.ref b26)])) _
      refine st29.trans ?_
      show Steps p.tables e below (T29.setTop (mkF m 21 #[.val (.int p0), .val (.long p1), .second, .val (.long p2), .second, .val (.int p3), .val (.int p4), .val (.int (p3 >>> ((10 : Int32) &&& 31))), .unset, .unset, .unset, .unset, .unset, .unset, .unset, .unset, .unset, .unset, .unset, .unset] [(.double (FP.ddiv (FP.l2d p1) (FP.i2d p0)))])) _
      refine XS.dstore X29.here hx rfl (hb hby at_21) rfl (l' := #[.val (.int p0), .val (.long p1), .second, .val (.long p2), .second, .val (.int p3), .val (.int p4), .val (.int (p3 >>> ((10 : Int32) &&& 31))), .val (.double (FP.ddiv (FP.l2d p1) (FP.i2d p0))), .second, .unset, .unset, .unset, .unset, .unset, .unset, .unset, .unset, .unset, .unset]) rfl ?_
      show Steps p.tables e below (T29.setTop (mkF m 23 #[.val (.int p0), .val (.long p1), .second, .val (.long p2), .second, .val (.int p3), .val (.int p4), .val (.int (p3 >>> ((10 : Int32) &&& 31))), .val (.double (FP.ddiv (FP.l2d p1) (FP.i2d p0))), .second, .unset, .unset, .unset, .unset, .unset, .unset, .unset, .unset, .unset, .unset] [])) _
      refine st31 _ ?_
      show Steps p.tables e below (T31.setTop (mkF m 26 #[.val (.int p0), .val (.long p1), .second, .val (.long p2), .second, .val (.int p3), .val (.int p4), .val (.int (p3 >>> ((10 : Int32) &&& 31))), .val (.double (FP.ddiv (FP.l2d p1) (FP.i2d p0))), .second, .unset, .unset, .unset, .unset, .unset, .unset, .unset, .unset, .unset, .unset] [(.ref b31)])) _
      refine XS.dup X31.here hx rfl (hb hby at_26) rfl rfl ?_
      show Steps p.tables e below (T31.setTop (mkF m 27 #[.val (.int p0), .val (.long p1), .second, .val (.long p2), .second, .val (.int p3), .val (.int p4), .val (.int (p3 >>> ((10 : Int32) &&& 31))), .val (.double (FP.ddiv (FP.l2d p1) (FP.i2d p0))), .second, .unset, .unset, .unset, .unset, .unset, .unset, .unset, .unset, .unset, .unset] [(.ref b31), (.ref b31)])) _
      refine XS.iloadN X31.here hx rfl (hb hby at_27) rfl ?_
      show Steps p.tables e below (T31.setTop (mkF m 28 #[.val (.int p0), .val (.long p1), .second, .val (.long p2), .second, .val (.int p3), .val (.int p4), .val (.int (p3 >>> ((10 : Int32) &&& 31))), .val (.double (FP.ddiv (FP.l2d p1) (FP.i2d p0))), .second, .unset, .unset, .unset, .unset, .unset, .unset, .unset, .unset, .unset, .unset] [(.int p0), (.ref b31), (.ref b31)])) _
      refine XS.lloadN X31.here hx rfl (hb hby at_28) rfl ?_
      show Steps p.tables e below (T31.setTop (mkF m 29 #[.val (.int p0), .val (.long p1), .second, .val (.long p2), .second, .val (.int p3), .val (.int p4), .val (.int (p3 >>> ((10 : Int32) &&& 31))), .val (.double (FP.ddiv (FP.l2d p1) (FP.i2d p0))), .second, .unset, .unset, .unset, .unset, .unset, .unset, .unset, .unset, .unset, .unset] [(.long p2), (.int p0), (.ref b31), (.ref b31)])) _
      refine XS.iload X31.here hx rfl (hb hby at_29) rfl ?_
      show Steps p.tables e below (T31.setTop (mkF m 31 #[.val (.int p0), .val (.long p1), .second, .val (.long p2), .second, .val (.int p3), .val (.int p4), .val (.int (p3 >>> ((10 : Int32) &&& 31))), .val (.double (FP.ddiv (FP.l2d p1) (FP.i2d p0))), .second, .unset, .unset, .unset, .unset, .unset, .unset, .unset, .unset, .unset, .unset] [(.int p4), (.long p2), (.int p0), (.ref b31), (.ref b31)])) _
      refine st32.trans ?_
      show Steps p.tables e below (T32.setTop (mkF m 34 #[.val (.int p0), .val (.long p1), .second, .val (.long p2), .second, .val (.int p3), .val (.int p4), .val (.int (p3 >>> ((10 : Int32) &&& 31))), .val (.double (FP.ddiv (FP.l2d p1) (FP.i2d p0))), .second, .unset, .unset, .unset, .unset, .unset, .unset, .unset, .unset, .unset, .unset] [(.ref b31)])) _
      refine st34.trans ?_
      show Steps p.tables e below (T34.setTop (mkF m 37 #[.val (.int p0), .val (.long p1), .second, .val (.long p2), .second, .val (.int p3), .val (.int p4), .val (.int (p3 >>> ((10 : Int32) &&& 31))), .val (.double (FP.ddiv (FP.l2d p1) (FP.i2d p0))), .second, .unset, .unset, .unset, .unset, .unset, .unset, .unset, .unset, .unset, .unset] [(.double (FP.ddiv (FP.l2d p2) (FP.i2d p0)))])) _
      refine XS.dstore X34.here hx rfl (hb hby at_37) rfl (l' := #[.val (.int p0), .val (.long p1), .second, .val (.long p2), .second, .val (.int p3), .val (.int p4), .val (.int (p3 >>> ((10 : Int32) &&& 31))), .val (.double (FP.ddiv (FP.l2d p1) (FP.i2d p0))), .second, .val (.double (FP.ddiv (FP.l2d p2) (FP.i2d p0))), .second, .unset, .unset, .unset, .unset, .unset, .unset, .unset, .unset]) rfl ?_
      show Steps p.tables e below (T34.setTop (mkF m 39 #[.val (.int p0), .val (.long p1), .second, .val (.long p2), .second, .val (.int p3), .val (.int p4), .val (.int (p3 >>> ((10 : Int32) &&& 31))), .val (.double (FP.ddiv (FP.l2d p1) (FP.i2d p0))), .second, .val (.double (FP.ddiv (FP.l2d p2) (FP.i2d p0))), .second, .unset, .unset, .unset, .unset, .unset, .unset, .unset, .unset] [])) _
      refine st36 _ ?_
      show Steps p.tables e below (T36.setTop (mkF m 42 #[.val (.int p0), .val (.long p1), .second, .val (.long p2), .second, .val (.int p3), .val (.int p4), .val (.int (p3 >>> ((10 : Int32) &&& 31))), .val (.double (FP.ddiv (FP.l2d p1) (FP.i2d p0))), .second, .val (.double (FP.ddiv (FP.l2d p2) (FP.i2d p0))), .second, .unset, .unset, .unset, .unset, .unset, .unset, .unset, .unset] [(.ref b36)])) _
      refine XS.dup X36.here hx rfl (hb hby at_42) rfl rfl ?_
      show Steps p.tables e below (T36.setTop (mkF m 43 #[.val (.int p0), .val (.long p1), .second, .val (.long p2), .second, .val (.int p3), .val (.int p4), .val (.int (p3 >>> ((10 : Int32) &&& 31))), .val (.double (FP.ddiv (FP.l2d p1) (FP.i2d p0))), .second, .val (.double (FP.ddiv (FP.l2d p2) (FP.i2d p0))), .second, .unset, .unset, .unset, .unset, .unset, .unset, .unset, .unset] [(.ref b36), (.ref b36)])) _
      refine XS.iloadN X36.here hx rfl (hb hby at_43) rfl ?_
      show Steps p.tables e below (T36.setTop (mkF m 44 #[.val (.int p0), .val (.long p1), .second, .val (.long p2), .second, .val (.int p3), .val (.int p4), .val (.int (p3 >>> ((10 : Int32) &&& 31))), .val (.double (FP.ddiv (FP.l2d p1) (FP.i2d p0))), .second, .val (.double (FP.ddiv (FP.l2d p2) (FP.i2d p0))), .second, .unset, .unset, .unset, .unset, .unset, .unset, .unset, .unset] [(.int p0), (.ref b36), (.ref b36)])) _
      refine XS.iload X36.here hx rfl (hb hby at_44) rfl ?_
      show Steps p.tables e below (T36.setTop (mkF m 46 #[.val (.int p0), .val (.long p1), .second, .val (.long p2), .second, .val (.int p3), .val (.int p4), .val (.int (p3 >>> ((10 : Int32) &&& 31))), .val (.double (FP.ddiv (FP.l2d p1) (FP.i2d p0))), .second, .val (.double (FP.ddiv (FP.l2d p2) (FP.i2d p0))), .second, .unset, .unset, .unset, .unset, .unset, .unset, .unset, .unset] [(.int (p3 >>> ((10 : Int32) &&& 31))), (.int p0), (.ref b36), (.ref b36)])) _
      refine XS.i2l X36.here hx rfl (hb hby at_46) rfl ?_
      show Steps p.tables e below (T36.setTop (mkF m 47 #[.val (.int p0), .val (.long p1), .second, .val (.long p2), .second, .val (.int p3), .val (.int p4), .val (.int (p3 >>> ((10 : Int32) &&& 31))), .val (.double (FP.ddiv (FP.l2d p1) (FP.i2d p0))), .second, .val (.double (FP.ddiv (FP.l2d p2) (FP.i2d p0))), .second, .unset, .unset, .unset, .unset, .unset, .unset, .unset, .unset] [(.long ((p3 >>> ((10 : Int32) &&& 31)).toInt64)), (.int p0), (.ref b36), (.ref b36)])) _
      refine XS.iloadN X36.here hx rfl (hb hby at_47) rfl ?_
      show Steps p.tables e below (T36.setTop (mkF m 48 #[.val (.int p0), .val (.long p1), .second, .val (.long p2), .second, .val (.int p3), .val (.int p4), .val (.int (p3 >>> ((10 : Int32) &&& 31))), .val (.double (FP.ddiv (FP.l2d p1) (FP.i2d p0))), .second, .val (.double (FP.ddiv (FP.l2d p2) (FP.i2d p0))), .second, .unset, .unset, .unset, .unset, .unset, .unset, .unset, .unset] [(.int p0), (.long ((p3 >>> ((10 : Int32) &&& 31)).toInt64)), (.int p0), (.ref b36), (.ref b36)])) _
      refine XS.i2l X36.here hx rfl (hb hby at_48) rfl ?_
      show Steps p.tables e below (T36.setTop (mkF m 49 #[.val (.int p0), .val (.long p1), .second, .val (.long p2), .second, .val (.int p3), .val (.int p4), .val (.int (p3 >>> ((10 : Int32) &&& 31))), .val (.double (FP.ddiv (FP.l2d p1) (FP.i2d p0))), .second, .val (.double (FP.ddiv (FP.l2d p2) (FP.i2d p0))), .second, .unset, .unset, .unset, .unset, .unset, .unset, .unset, .unset] [(.long (p0.toInt64)), (.long ((p3 >>> ((10 : Int32) &&& 31)).toInt64)), (.int p0), (.ref b36), (.ref b36)])) _
      refine XS.lmul X36.here hx rfl (hb hby at_49) rfl ?_
      show Steps p.tables e below (T36.setTop (mkF m 50 #[.val (.int p0), .val (.long p1), .second, .val (.long p2), .second, .val (.int p3), .val (.int p4), .val (.int (p3 >>> ((10 : Int32) &&& 31))), .val (.double (FP.ddiv (FP.l2d p1) (FP.i2d p0))), .second, .val (.double (FP.ddiv (FP.l2d p2) (FP.i2d p0))), .second, .unset, .unset, .unset, .unset, .unset, .unset, .unset, .unset] [(.long (((p3 >>> ((10 : Int32) &&& 31)).toInt64) * (p0.toInt64))), (.int p0), (.ref b36), (.ref b36)])) _
      refine XS.iload X36.here hx rfl (hb hby at_50) rfl ?_
      show Steps p.tables e below (T36.setTop (mkF m 52 #[.val (.int p0), .val (.long p1), .second, .val (.long p2), .second, .val (.int p3), .val (.int p4), .val (.int (p3 >>> ((10 : Int32) &&& 31))), .val (.double (FP.ddiv (FP.l2d p1) (FP.i2d p0))), .second, .val (.double (FP.ddiv (FP.l2d p2) (FP.i2d p0))), .second, .unset, .unset, .unset, .unset, .unset, .unset, .unset, .unset] [(.int p4), (.long (((p3 >>> ((10 : Int32) &&& 31)).toInt64) * (p0.toInt64))), (.int p0), (.ref b36), (.ref b36)])) _
      refine st37.trans ?_
      show Steps p.tables e below (T37.setTop (mkF m 55 #[.val (.int p0), .val (.long p1), .second, .val (.long p2), .second, .val (.int p3), .val (.int p4), .val (.int (p3 >>> ((10 : Int32) &&& 31))), .val (.double (FP.ddiv (FP.l2d p1) (FP.i2d p0))), .second, .val (.double (FP.ddiv (FP.l2d p2) (FP.i2d p0))), .second, .unset, .unset, .unset, .unset, .unset, .unset, .unset, .unset] [(.ref b36)])) _
      refine st39.trans ?_
      show Steps p.tables e below (T39.setTop (mkF m 58 #[.val (.int p0), .val (.long p1), .second, .val (.long p2), .second, .val (.int p3), .val (.int p4), .val (.int (p3 >>> ((10 : Int32) &&& 31))), .val (.double (FP.ddiv (FP.l2d p1) (FP.i2d p0))), .second, .val (.double (FP.ddiv (FP.l2d p2) (FP.i2d p0))), .second, .unset, .unset, .unset, .unset, .unset, .unset, .unset, .unset] [(.double (FP.ddiv (FP.l2d (((p3 >>> ((10 : Int32) &&& 31)).toInt64) * (p0.toInt64))) (FP.i2d p0)))])) _
      refine XS.dstore X39.here hx rfl (hb hby at_58) rfl (l' := #[.val (.int p0), .val (.long p1), .second, .val (.long p2), .second, .val (.int p3), .val (.int p4), .val (.int (p3 >>> ((10 : Int32) &&& 31))), .val (.double (FP.ddiv (FP.l2d p1) (FP.i2d p0))), .second, .val (.double (FP.ddiv (FP.l2d p2) (FP.i2d p0))), .second, .val (.double (FP.ddiv (FP.l2d (((p3 >>> ((10 : Int32) &&& 31)).toInt64) * (p0.toInt64))) (FP.i2d p0))), .second, .unset, .unset, .unset, .unset, .unset, .unset]) rfl ?_
      show Steps p.tables e below (T39.setTop (mkF m 60 #[.val (.int p0), .val (.long p1), .second, .val (.long p2), .second, .val (.int p3), .val (.int p4), .val (.int (p3 >>> ((10 : Int32) &&& 31))), .val (.double (FP.ddiv (FP.l2d p1) (FP.i2d p0))), .second, .val (.double (FP.ddiv (FP.l2d p2) (FP.i2d p0))), .second, .val (.double (FP.ddiv (FP.l2d (((p3 >>> ((10 : Int32) &&& 31)).toInt64) * (p0.toInt64))) (FP.i2d p0))), .second, .unset, .unset, .unset, .unset, .unset, .unset] [])) _
      refine st41 _ ?_
      show Steps p.tables e below (T41.setTop (mkF m 63 #[.val (.int p0), .val (.long p1), .second, .val (.long p2), .second, .val (.int p3), .val (.int p4), .val (.int (p3 >>> ((10 : Int32) &&& 31))), .val (.double (FP.ddiv (FP.l2d p1) (FP.i2d p0))), .second, .val (.double (FP.ddiv (FP.l2d p2) (FP.i2d p0))), .second, .val (.double (FP.ddiv (FP.l2d (((p3 >>> ((10 : Int32) &&& 31)).toInt64) * (p0.toInt64))) (FP.i2d p0))), .second, .unset, .unset, .unset, .unset, .unset, .unset] [(.ref b41)])) _
      refine XS.dup X41.here hx rfl (hb hby at_63) rfl rfl ?_
      show Steps p.tables e below (T41.setTop (mkF m 64 #[.val (.int p0), .val (.long p1), .second, .val (.long p2), .second, .val (.int p3), .val (.int p4), .val (.int (p3 >>> ((10 : Int32) &&& 31))), .val (.double (FP.ddiv (FP.l2d p1) (FP.i2d p0))), .second, .val (.double (FP.ddiv (FP.l2d p2) (FP.i2d p0))), .second, .val (.double (FP.ddiv (FP.l2d (((p3 >>> ((10 : Int32) &&& 31)).toInt64) * (p0.toInt64))) (FP.i2d p0))), .second, .unset, .unset, .unset, .unset, .unset, .unset] [(.ref b41), (.ref b41)])) _
      refine XS.iconst X41.here hx rfl (hb hby at_64) ?_
      show Steps p.tables e below (T41.setTop (mkF m 65 #[.val (.int p0), .val (.long p1), .second, .val (.long p2), .second, .val (.int p3), .val (.int p4), .val (.int (p3 >>> ((10 : Int32) &&& 31))), .val (.double (FP.ddiv (FP.l2d p1) (FP.i2d p0))), .second, .val (.double (FP.ddiv (FP.l2d p2) (FP.i2d p0))), .second, .val (.double (FP.ddiv (FP.l2d (((p3 >>> ((10 : Int32) &&& 31)).toInt64) * (p0.toInt64))) (FP.i2d p0))), .second, .unset, .unset, .unset, .unset, .unset, .unset] [(.int (2 : Int32)), (.ref b41), (.ref b41)])) _
      refine X41.ldc2Long hx hown (mvT hZ (own_k hw 25 rfl)) (g := (mkF m 65 #[.val (.int p0), .val (.long p1), .second, .val (.long p2), .second, .val (.int p3), .val (.int p4), .val (.int (p3 >>> ((10 : Int32) &&& 31))), .val (.double (FP.ddiv (FP.l2d p1) (FP.i2d p0))), .second, .val (.double (FP.ddiv (FP.l2d p2) (FP.i2d p0))), .second, .val (.double (FP.ddiv (FP.l2d (((p3 >>> ((10 : Int32) &&& 31)).toInt64) * (p0.toInt64))) (FP.i2d p0))), .second, .unset, .unset, .unset, .unset, .unset, .unset] [(.int (2 : Int32)), (.ref b41), (.ref b41)])) rfl (hb hby at_65) _ ?_
      show Steps p.tables e below (T41.setTop (mkF m 68 #[.val (.int p0), .val (.long p1), .second, .val (.long p2), .second, .val (.int p3), .val (.int p4), .val (.int (p3 >>> ((10 : Int32) &&& 31))), .val (.double (FP.ddiv (FP.l2d p1) (FP.i2d p0))), .second, .val (.double (FP.ddiv (FP.l2d p2) (FP.i2d p0))), .second, .val (.double (FP.ddiv (FP.l2d (((p3 >>> ((10 : Int32) &&& 31)).toInt64) * (p0.toInt64))) (FP.i2d p0))), .second, .unset, .unset, .unset, .unset, .unset, .unset] [(.long (2 : Int64)), (.int (2 : Int32)), (.ref b41), (.ref b41)])) _
      refine XS.iload X41.here hx rfl (hb hby at_68) rfl ?_
      show Steps p.tables e below (T41.setTop (mkF m 70 #[.val (.int p0), .val (.long p1), .second, .val (.long p2), .second, .val (.int p3), .val (.int p4), .val (.int (p3 >>> ((10 : Int32) &&& 31))), .val (.double (FP.ddiv (FP.l2d p1) (FP.i2d p0))), .second, .val (.double (FP.ddiv (FP.l2d p2) (FP.i2d p0))), .second, .val (.double (FP.ddiv (FP.l2d (((p3 >>> ((10 : Int32) &&& 31)).toInt64) * (p0.toInt64))) (FP.i2d p0))), .second, .unset, .unset, .unset, .unset, .unset, .unset] [(.int (p3 >>> ((10 : Int32) &&& 31))), (.long (2 : Int64)), (.int (2 : Int32)), (.ref b41), (.ref b41)])) _
      refine XS.i2l X41.here hx rfl (hb hby at_70) rfl ?_
      show Steps p.tables e below (T41.setTop (mkF m 71 #[.val (.int p0), .val (.long p1), .second, .val (.long p2), .second, .val (.int p3), .val (.int p4), .val (.int (p3 >>> ((10 : Int32) &&& 31))), .val (.double (FP.ddiv (FP.l2d p1) (FP.i2d p0))), .second, .val (.double (FP.ddiv (FP.l2d p2) (FP.i2d p0))), .second, .val (.double (FP.ddiv (FP.l2d (((p3 >>> ((10 : Int32) &&& 31)).toInt64) * (p0.toInt64))) (FP.i2d p0))), .second, .unset, .unset, .unset, .unset, .unset, .unset] [(.long ((p3 >>> ((10 : Int32) &&& 31)).toInt64)), (.long (2 : Int64)), (.int (2 : Int32)), (.ref b41), (.ref b41)])) _
      refine XS.lmul X41.here hx rfl (hb hby at_71) rfl ?_
      show Steps p.tables e below (T41.setTop (mkF m 72 #[.val (.int p0), .val (.long p1), .second, .val (.long p2), .second, .val (.int p3), .val (.int p4), .val (.int (p3 >>> ((10 : Int32) &&& 31))), .val (.double (FP.ddiv (FP.l2d p1) (FP.i2d p0))), .second, .val (.double (FP.ddiv (FP.l2d p2) (FP.i2d p0))), .second, .val (.double (FP.ddiv (FP.l2d (((p3 >>> ((10 : Int32) &&& 31)).toInt64) * (p0.toInt64))) (FP.i2d p0))), .second, .unset, .unset, .unset, .unset, .unset, .unset] [(.long ((2 : Int64) * ((p3 >>> ((10 : Int32) &&& 31)).toInt64))), (.int (2 : Int32)), (.ref b41), (.ref b41)])) _
      refine XS.lconst X41.here hx rfl (hb hby at_72) ?_
      show Steps p.tables e below (T41.setTop (mkF m 73 #[.val (.int p0), .val (.long p1), .second, .val (.long p2), .second, .val (.int p3), .val (.int p4), .val (.int (p3 >>> ((10 : Int32) &&& 31))), .val (.double (FP.ddiv (FP.l2d p1) (FP.i2d p0))), .second, .val (.double (FP.ddiv (FP.l2d p2) (FP.i2d p0))), .second, .val (.double (FP.ddiv (FP.l2d (((p3 >>> ((10 : Int32) &&& 31)).toInt64) * (p0.toInt64))) (FP.i2d p0))), .second, .unset, .unset, .unset, .unset, .unset, .unset] [(.long (1 : Int64)), (.long ((2 : Int64) * ((p3 >>> ((10 : Int32) &&& 31)).toInt64))), (.int (2 : Int32)), (.ref b41), (.ref b41)])) _
      refine XS.ladd X41.here hx rfl (hb hby at_73) rfl ?_
      show Steps p.tables e below (T41.setTop (mkF m 74 #[.val (.int p0), .val (.long p1), .second, .val (.long p2), .second, .val (.int p3), .val (.int p4), .val (.int (p3 >>> ((10 : Int32) &&& 31))), .val (.double (FP.ddiv (FP.l2d p1) (FP.i2d p0))), .second, .val (.double (FP.ddiv (FP.l2d p2) (FP.i2d p0))), .second, .val (.double (FP.ddiv (FP.l2d (((p3 >>> ((10 : Int32) &&& 31)).toInt64) * (p0.toInt64))) (FP.i2d p0))), .second, .unset, .unset, .unset, .unset, .unset, .unset] [(.long (((2 : Int64) * ((p3 >>> ((10 : Int32) &&& 31)).toInt64)) + (1 : Int64))), (.int (2 : Int32)), (.ref b41), (.ref b41)])) _
      refine XS.iload X41.here hx rfl (hb hby at_74) rfl ?_
      show Steps p.tables e below (T41.setTop (mkF m 76 #[.val (.int p0), .val (.long p1), .second, .val (.long p2), .second, .val (.int p3), .val (.int p4), .val (.int (p3 >>> ((10 : Int32) &&& 31))), .val (.double (FP.ddiv (FP.l2d p1) (FP.i2d p0))), .second, .val (.double (FP.ddiv (FP.l2d p2) (FP.i2d p0))), .second, .val (.double (FP.ddiv (FP.l2d (((p3 >>> ((10 : Int32) &&& 31)).toInt64) * (p0.toInt64))) (FP.i2d p0))), .second, .unset, .unset, .unset, .unset, .unset, .unset] [(.int p4), (.long (((2 : Int64) * ((p3 >>> ((10 : Int32) &&& 31)).toInt64)) + (1 : Int64))), (.int (2 : Int32)), (.ref b41), (.ref b41)])) _
      refine st42.trans ?_
      show Steps p.tables e below (T42.setTop (mkF m 79 #[.val (.int p0), .val (.long p1), .second, .val (.long p2), .second, .val (.int p3), .val (.int p4), .val (.int (p3 >>> ((10 : Int32) &&& 31))), .val (.double (FP.ddiv (FP.l2d p1) (FP.i2d p0))), .second, .val (.double (FP.ddiv (FP.l2d p2) (FP.i2d p0))), .second, .val (.double (FP.ddiv (FP.l2d (((p3 >>> ((10 : Int32) &&& 31)).toInt64) * (p0.toInt64))) (FP.i2d p0))), .second, .unset, .unset, .unset, .unset, .unset, .unset] [(.ref b41)])) _
      refine st44.trans ?_
      show Steps p.tables e below (T44.setTop (mkF m 82 #[.val (.int p0), .val (.long p1), .second, .val (.long p2), .second, .val (.int p3), .val (.int p4), .val (.int (p3 >>> ((10 : Int32) &&& 31))), .val (.double (FP.ddiv (FP.l2d p1) (FP.i2d p0))), .second, .val (.double (FP.ddiv (FP.l2d p2) (FP.i2d p0))), .second, .val (.double (FP.ddiv (FP.l2d (((p3 >>> ((10 : Int32) &&& 31)).toInt64) * (p0.toInt64))) (FP.i2d p0))), .second, .unset, .unset, .unset, .unset, .unset, .unset] [(.double (FP.ddiv (FP.l2d (((2 : Int64) * ((p3 >>> ((10 : Int32) &&& 31)).toInt64)) + (1 : Int64))) (FP.i2d (2 : Int32))))])) _
      refine XS.dstore X44.here hx rfl (hb hby at_82) rfl (l' := #[.val (.int p0), .val (.long p1), .second, .val (.long p2), .second, .val (.int p3), .val (.int p4), .val (.int (p3 >>> ((10 : Int32) &&& 31))), .val (.double (FP.ddiv (FP.l2d p1) (FP.i2d p0))), .second, .val (.double (FP.ddiv (FP.l2d p2) (FP.i2d p0))), .second, .val (.double (FP.ddiv (FP.l2d (((p3 >>> ((10 : Int32) &&& 31)).toInt64) * (p0.toInt64))) (FP.i2d p0))), .second, .val (.double (FP.ddiv (FP.l2d (((2 : Int64) * ((p3 >>> ((10 : Int32) &&& 31)).toInt64)) + (1 : Int64))) (FP.i2d (2 : Int32)))), .second, .unset, .unset, .unset, .unset]) rfl ?_
      show Steps p.tables e below (T44.setTop (mkF m 84 #[.val (.int p0), .val (.long p1), .second, .val (.long p2), .second, .val (.int p3), .val (.int p4), .val (.int (p3 >>> ((10 : Int32) &&& 31))), .val (.double (FP.ddiv (FP.l2d p1) (FP.i2d p0))), .second, .val (.double (FP.ddiv (FP.l2d p2) (FP.i2d p0))), .second, .val (.double (FP.ddiv (FP.l2d (((p3 >>> ((10 : Int32) &&& 31)).toInt64) * (p0.toInt64))) (FP.i2d p0))), .second, .val (.double (FP.ddiv (FP.l2d (((2 : Int64) * ((p3 >>> ((10 : Int32) &&& 31)).toInt64)) + (1 : Int64))) (FP.i2d (2 : Int32)))), .second, .unset, .unset, .unset, .unset] [])) _
      refine st46 _ ?_
      show Steps p.tables e below (T46.setTop (mkF m 87 #[.val (.int p0), .val (.long p1), .second, .val (.long p2), .second, .val (.int p3), .val (.int p4), .val (.int (p3 >>> ((10 : Int32) &&& 31))), .val (.double (FP.ddiv (FP.l2d p1) (FP.i2d p0))), .second, .val (.double (FP.ddiv (FP.l2d p2) (FP.i2d p0))), .second, .val (.double (FP.ddiv (FP.l2d (((p3 >>> ((10 : Int32) &&& 31)).toInt64) * (p0.toInt64))) (FP.i2d p0))), .second, .val (.double (FP.ddiv (FP.l2d (((2 : Int64) * ((p3 >>> ((10 : Int32) &&& 31)).toInt64)) + (1 : Int64))) (FP.i2d (2 : Int32)))), .second, .unset, .unset, .unset, .unset] [(.ref b46)])) _
      refine XS.dup X46.here hx rfl (hb hby at_87) rfl rfl ?_
      show Steps p.tables e below (T46.setTop (mkF m 88 #[.val (.int p0), .val (.long p1), .second, .val (.long p2), .second, .val (.int p3), .val (.int p4), .val (.int (p3 >>> ((10 : Int32) &&& 31))), .val (.double (FP.ddiv (FP.l2d p1) (FP.i2d p0))), .second, .val (.double (FP.ddiv (FP.l2d p2) (FP.i2d p0))), .second, .val (.double (FP.ddiv (FP.l2d (((p3 >>> ((10 : Int32) &&& 31)).toInt64) * (p0.toInt64))) (FP.i2d p0))), .second, .val (.double (FP.ddiv (FP.l2d (((2 : Int64) * ((p3 >>> ((10 : Int32) &&& 31)).toInt64)) + (1 : Int64))) (FP.i2d (2 : Int32)))), .second, .unset, .unset, .unset, .unset] [(.ref b46), (.ref b46)])) _
      refine XS.iconst X46.here hx rfl (hb hby at_88) ?_
      show Steps p.tables e below (T46.setTop (mkF m 89 #[.val (.int p0), .val (.long p1), .second, .val (.long p2), .second, .val (.int p3), .val (.int p4), .val (.int (p3 >>> ((10 : Int32) &&& 31))), .val (.double (FP.ddiv (FP.l2d p1) (FP.i2d p0))), .second, .val (.double (FP.ddiv (FP.l2d p2) (FP.i2d p0))), .second, .val (.double (FP.ddiv (FP.l2d (((p3 >>> ((10 : Int32) &&& 31)).toInt64) * (p0.toInt64))) (FP.i2d p0))), .second, .val (.double (FP.ddiv (FP.l2d (((2 : Int64) * ((p3 >>> ((10 : Int32) &&& 31)).toInt64)) + (1 : Int64))) (FP.i2d (2 : Int32)))), .second, .unset, .unset, .unset, .unset] [(.int (1 : Int32)), (.ref b46), (.ref b46)])) _
      refine XS.lloadN X46.here hx rfl (hb hby at_89) rfl ?_
      show Steps p.tables e below (T46.setTop (mkF m 90 #[.val (.int p0), .val (.long p1), .second, .val (.long p2), .second, .val (.int p3), .val (.int p4), .val (.int (p3 >>> ((10 : Int32) &&& 31))), .val (.double (FP.ddiv (FP.l2d p1) (FP.i2d p0))), .second, .val (.double (FP.ddiv (FP.l2d p2) (FP.i2d p0))), .second, .val (.double (FP.ddiv (FP.l2d (((p3 >>> ((10 : Int32) &&& 31)).toInt64) * (p0.toInt64))) (FP.i2d p0))), .second, .val (.double (FP.ddiv (FP.l2d (((2 : Int64) * ((p3 >>> ((10 : Int32) &&& 31)).toInt64)) + (1 : Int64))) (FP.i2d (2 : Int32)))), .second, .unset, .unset, .unset, .unset] [(.long p1), (.int (1 : Int32)), (.ref b46), (.ref b46)])) _
      refine XS.iload X46.here hx rfl (hb hby at_90) rfl ?_
      show Steps p.tables e below (T46.setTop (mkF m 92 #[.val (.int p0), .val (.long p1), .second, .val (.long p2), .second, .val (.int p3), .val (.int p4), .val (.int (p3 >>> ((10 : Int32) &&& 31))), .val (.double (FP.ddiv (FP.l2d p1) (FP.i2d p0))), .second, .val (.double (FP.ddiv (FP.l2d p2) (FP.i2d p0))), .second, .val (.double (FP.ddiv (FP.l2d (((p3 >>> ((10 : Int32) &&& 31)).toInt64) * (p0.toInt64))) (FP.i2d p0))), .second, .val (.double (FP.ddiv (FP.l2d (((2 : Int64) * ((p3 >>> ((10 : Int32) &&& 31)).toInt64)) + (1 : Int64))) (FP.i2d (2 : Int32)))), .second, .unset, .unset, .unset, .unset] [(.int p4), (.long p1), (.int (1 : Int32)), (.ref b46), (.ref b46)])) _
      refine st47.trans ?_
      show Steps p.tables e below (T47.setTop (mkF m 95 #[.val (.int p0), .val (.long p1), .second, .val (.long p2), .second, .val (.int p3), .val (.int p4), .val (.int (p3 >>> ((10 : Int32) &&& 31))), .val (.double (FP.ddiv (FP.l2d p1) (FP.i2d p0))), .second, .val (.double (FP.ddiv (FP.l2d p2) (FP.i2d p0))), .second, .val (.double (FP.ddiv (FP.l2d (((p3 >>> ((10 : Int32) &&& 31)).toInt64) * (p0.toInt64))) (FP.i2d p0))), .second, .val (.double (FP.ddiv (FP.l2d (((2 : Int64) * ((p3 >>> ((10 : Int32) &&& 31)).toInt64)) + (1 : Int64))) (FP.i2d (2 : Int32)))), .second, .unset, .unset, .unset, .unset] [(.ref b46)])) _
      refine st49.trans ?_
      show Steps p.tables e below (T49.setTop (mkF m 98 #[.val (.int p0), .val (.long p1), .second, .val (.long p2), .second, .val (.int p3), .val (.int p4), .val (.int (p3 >>> ((10 : Int32) &&& 31))), .val (.double (FP.ddiv (FP.l2d p1) (FP.i2d p0))), .second, .val (.double (FP.ddiv (FP.l2d p2) (FP.i2d p0))), .second, .val (.double (FP.ddiv (FP.l2d (((p3 >>> ((10 : Int32) &&& 31)).toInt64) * (p0.toInt64))) (FP.i2d p0))), .second, .val (.double (FP.ddiv (FP.l2d (((2 : Int64) * ((p3 >>> ((10 : Int32) &&& 31)).toInt64)) + (1 : Int64))) (FP.i2d (2 : Int32)))), .second, .unset, .unset, .unset, .unset] [(.double (FP.ddiv (FP.l2d p1) (FP.i2d (1 : Int32))))])) _
      refine XS.dstore X49.here hx rfl (hb hby at_98) rfl (l' := #[.val (.int p0), .val (.long p1), .second, .val (.long p2), .second, .val (.int p3), .val (.int p4), .val (.int (p3 >>> ((10 : Int32) &&& 31))), .val (.double (FP.ddiv (FP.l2d p1) (FP.i2d p0))), .second, .val (.double (FP.ddiv (FP.l2d p2) (FP.i2d p0))), .second, .val (.double (FP.ddiv (FP.l2d (((p3 >>> ((10 : Int32) &&& 31)).toInt64) * (p0.toInt64))) (FP.i2d p0))), .second, .val (.double (FP.ddiv (FP.l2d (((2 : Int64) * ((p3 >>> ((10 : Int32) &&& 31)).toInt64)) + (1 : Int64))) (FP.i2d (2 : Int32)))), .second, .val (.double (FP.ddiv (FP.l2d p1) (FP.i2d (1 : Int32)))), .second, .unset, .unset]) rfl ?_
      show Steps p.tables e below (T49.setTop (mkF m 100 #[.val (.int p0), .val (.long p1), .second, .val (.long p2), .second, .val (.int p3), .val (.int p4), .val (.int (p3 >>> ((10 : Int32) &&& 31))), .val (.double (FP.ddiv (FP.l2d p1) (FP.i2d p0))), .second, .val (.double (FP.ddiv (FP.l2d p2) (FP.i2d p0))), .second, .val (.double (FP.ddiv (FP.l2d (((p3 >>> ((10 : Int32) &&& 31)).toInt64) * (p0.toInt64))) (FP.i2d p0))), .second, .val (.double (FP.ddiv (FP.l2d (((2 : Int64) * ((p3 >>> ((10 : Int32) &&& 31)).toInt64)) + (1 : Int64))) (FP.i2d (2 : Int32)))), .second, .val (.double (FP.ddiv (FP.l2d p1) (FP.i2d (1 : Int32)))), .second, .unset, .unset] [])) _
      refine XS.dload X49.here hx rfl (hb hby at_100) rfl ?_
      show Steps p.tables e below (T49.setTop (mkF m 102 #[.val (.int p0), .val (.long p1), .second, .val (.long p2), .second, .val (.int p3), .val (.int p4), .val (.int (p3 >>> ((10 : Int32) &&& 31))), .val (.double (FP.ddiv (FP.l2d p1) (FP.i2d p0))), .second, .val (.double (FP.ddiv (FP.l2d p2) (FP.i2d p0))), .second, .val (.double (FP.ddiv (FP.l2d (((p3 >>> ((10 : Int32) &&& 31)).toInt64) * (p0.toInt64))) (FP.i2d p0))), .second, .val (.double (FP.ddiv (FP.l2d (((2 : Int64) * ((p3 >>> ((10 : Int32) &&& 31)).toInt64)) + (1 : Int64))) (FP.i2d (2 : Int32)))), .second, .val (.double (FP.ddiv (FP.l2d p1) (FP.i2d (1 : Int32)))), .second, .unset, .unset] [(.double (FP.ddiv (FP.l2d p1) (FP.i2d (1 : Int32))))])) _
      refine XS.lloadN X49.here hx rfl (hb hby at_102) rfl ?_
      show Steps p.tables e below (T49.setTop (mkF m 103 #[.val (.int p0), .val (.long p1), .second, .val (.long p2), .second, .val (.int p3), .val (.int p4), .val (.int (p3 >>> ((10 : Int32) &&& 31))), .val (.double (FP.ddiv (FP.l2d p1) (FP.i2d p0))), .second, .val (.double (FP.ddiv (FP.l2d p2) (FP.i2d p0))), .second, .val (.double (FP.ddiv (FP.l2d (((p3 >>> ((10 : Int32) &&& 31)).toInt64) * (p0.toInt64))) (FP.i2d p0))), .second, .val (.double (FP.ddiv (FP.l2d (((2 : Int64) * ((p3 >>> ((10 : Int32) &&& 31)).toInt64)) + (1 : Int64))) (FP.i2d (2 : Int32)))), .second, .val (.double (FP.ddiv (FP.l2d p1) (FP.i2d (1 : Int32)))), .second, .unset, .unset] [(.long p1), (.double (FP.ddiv (FP.l2d p1) (FP.i2d (1 : Int32))))])) _
      refine XS.l2dS X49.here hx rfl (hb hby at_103) rfl (v := FP.l2d p1) rfl ?_
      show Steps p.tables e below (T49.setTop (mkF m 104 #[.val (.int p0), .val (.long p1), .second, .val (.long p2), .second, .val (.int p3), .val (.int p4), .val (.int (p3 >>> ((10 : Int32) &&& 31))), .val (.double (FP.ddiv (FP.l2d p1) (FP.i2d p0))), .second, .val (.double (FP.ddiv (FP.l2d p2) (FP.i2d p0))), .second, .val (.double (FP.ddiv (FP.l2d (((p3 >>> ((10 : Int32) &&& 31)).toInt64) * (p0.toInt64))) (FP.i2d p0))), .second, .val (.double (FP.ddiv (FP.l2d (((2 : Int64) * ((p3 >>> ((10 : Int32) &&& 31)).toInt64)) + (1 : Int64))) (FP.i2d (2 : Int32)))), .second, .val (.double (FP.ddiv (FP.l2d p1) (FP.i2d (1 : Int32)))), .second, .unset, .unset] [(.double (FP.l2d p1)), (.double (FP.ddiv (FP.l2d p1) (FP.i2d (1 : Int32))))])) _
      refine XS.dcmpS X49.here hx rfl (hb hby at_104) rfl (v := (cmpValue (FP.dcmp (FP.ddiv (FP.l2d p1) (FP.i2d (1 : Int32))) (FP.l2d p1)) .l)) rfl ?_
      show Steps p.tables e below (T49.setTop (mkF m 105 #[.val (.int p0), .val (.long p1), .second, .val (.long p2), .second, .val (.int p3), .val (.int p4), .val (.int (p3 >>> ((10 : Int32) &&& 31))), .val (.double (FP.ddiv (FP.l2d p1) (FP.i2d p0))), .second, .val (.double (FP.ddiv (FP.l2d p2) (FP.i2d p0))), .second, .val (.double (FP.ddiv (FP.l2d (((p3 >>> ((10 : Int32) &&& 31)).toInt64) * (p0.toInt64))) (FP.i2d p0))), .second, .val (.double (FP.ddiv (FP.l2d (((2 : Int64) * ((p3 >>> ((10 : Int32) &&& 31)).toInt64)) + (1 : Int64))) (FP.i2d (2 : Int32)))), .second, .val (.double (FP.ddiv (FP.l2d p1) (FP.i2d (1 : Int32)))), .second, .unset, .unset] [(.int (cmpValue (FP.dcmp (FP.ddiv (FP.l2d p1) (FP.i2d (1 : Int32))) (FP.l2d p1)) .l))])) _
      refine XS.ifNo X49.here hx rfl (hb hby at_105) rfl ((if0 _ _).trans (teq (own_ceq (own_avF _ (by decide)).ne (own_l2dF _).ne (own_one _) .l)).2) ?_
      show Steps p.tables e below (T49.setTop (mkF m 108 #[.val (.int p0), .val (.long p1), .second, .val (.long p2), .second, .val (.int p3), .val (.int p4), .val (.int (p3 >>> ((10 : Int32) &&& 31))), .val (.double (FP.ddiv (FP.l2d p1) (FP.i2d p0))), .second, .val (.double (FP.ddiv (FP.l2d p2) (FP.i2d p0))), .second, .val (.double (FP.ddiv (FP.l2d (((p3 >>> ((10 : Int32) &&& 31)).toInt64) * (p0.toInt64))) (FP.i2d p0))), .second, .val (.double (FP.ddiv (FP.l2d (((2 : Int64) * ((p3 >>> ((10 : Int32) &&& 31)).toInt64)) + (1 : Int64))) (FP.i2d (2 : Int32)))), .second, .val (.double (FP.ddiv (FP.l2d p1) (FP.i2d (1 : Int32)))), .second, .unset, .unset] [])) _
      refine XS.dload X49.here hx rfl (hb hby at_108) rfl ?_
      show Steps p.tables e below (T49.setTop (mkF m 110 #[.val (.int p0), .val (.long p1), .second, .val (.long p2), .second, .val (.int p3), .val (.int p4), .val (.int (p3 >>> ((10 : Int32) &&& 31))), .val (.double (FP.ddiv (FP.l2d p1) (FP.i2d p0))), .second, .val (.double (FP.ddiv (FP.l2d p2) (FP.i2d p0))), .second, .val (.double (FP.ddiv (FP.l2d (((p3 >>> ((10 : Int32) &&& 31)).toInt64) * (p0.toInt64))) (FP.i2d p0))), .second, .val (.double (FP.ddiv (FP.l2d (((2 : Int64) * ((p3 >>> ((10 : Int32) &&& 31)).toInt64)) + (1 : Int64))) (FP.i2d (2 : Int32)))), .second, .val (.double (FP.ddiv (FP.l2d p1) (FP.i2d (1 : Int32)))), .second, .unset, .unset] [(.double (FP.ddiv (FP.l2d (((2 : Int64) * ((p3 >>> ((10 : Int32) &&& 31)).toInt64)) + (1 : Int64))) (FP.i2d (2 : Int32))))])) _
      refine XS.iload X49.here hx rfl (hb hby at_110) rfl ?_
      show Steps p.tables e below (T49.setTop (mkF m 112 #[.val (.int p0), .val (.long p1), .second, .val (.long p2), .second, .val (.int p3), .val (.int p4), .val (.int (p3 >>> ((10 : Int32) &&& 31))), .val (.double (FP.ddiv (FP.l2d p1) (FP.i2d p0))), .second, .val (.double (FP.ddiv (FP.l2d p2) (FP.i2d p0))), .second, .val (.double (FP.ddiv (FP.l2d (((p3 >>> ((10 : Int32) &&& 31)).toInt64) * (p0.toInt64))) (FP.i2d p0))), .second, .val (.double (FP.ddiv (FP.l2d (((2 : Int64) * ((p3 >>> ((10 : Int32) &&& 31)).toInt64)) + (1 : Int64))) (FP.i2d (2 : Int32)))), .second, .val (.double (FP.ddiv (FP.l2d p1) (FP.i2d (1 : Int32)))), .second, .unset, .unset] [(.int (p3 >>> ((10 : Int32) &&& 31))), (.double (FP.ddiv (FP.l2d (((2 : Int64) * ((p3 >>> ((10 : Int32) &&& 31)).toInt64)) + (1 : Int64))) (FP.i2d (2 : Int32))))])) _
      refine XS.i2dS X49.here hx rfl (hb hby at_112) rfl (v := FP.i2d (p3 >>> ((10 : Int32) &&& 31))) rfl ?_
      show Steps p.tables e below (T49.setTop (mkF m 113 #[.val (.int p0), .val (.long p1), .second, .val (.long p2), .second, .val (.int p3), .val (.int p4), .val (.int (p3 >>> ((10 : Int32) &&& 31))), .val (.double (FP.ddiv (FP.l2d p1) (FP.i2d p0))), .second, .val (.double (FP.ddiv (FP.l2d p2) (FP.i2d p0))), .second, .val (.double (FP.ddiv (FP.l2d (((p3 >>> ((10 : Int32) &&& 31)).toInt64) * (p0.toInt64))) (FP.i2d p0))), .second, .val (.double (FP.ddiv (FP.l2d (((2 : Int64) * ((p3 >>> ((10 : Int32) &&& 31)).toInt64)) + (1 : Int64))) (FP.i2d (2 : Int32)))), .second, .val (.double (FP.ddiv (FP.l2d p1) (FP.i2d (1 : Int32)))), .second, .unset, .unset] [(.double (FP.i2d (p3 >>> ((10 : Int32) &&& 31)))), (.double (FP.ddiv (FP.l2d (((2 : Int64) * ((p3 >>> ((10 : Int32) &&& 31)).toInt64)) + (1 : Int64))) (FP.i2d (2 : Int32))))])) _
      refine X49.ldc2DoubleC hx hown (mvT hZ (own_k hw 26 rfl)) (g := (mkF m 113 #[.val (.int p0), .val (.long p1), .second, .val (.long p2), .second, .val (.int p3), .val (.int p4), .val (.int (p3 >>> ((10 : Int32) &&& 31))), .val (.double (FP.ddiv (FP.l2d p1) (FP.i2d p0))), .second, .val (.double (FP.ddiv (FP.l2d p2) (FP.i2d p0))), .second, .val (.double (FP.ddiv (FP.l2d (((p3 >>> ((10 : Int32) &&& 31)).toInt64) * (p0.toInt64))) (FP.i2d p0))), .second, .val (.double (FP.ddiv (FP.l2d (((2 : Int64) * ((p3 >>> ((10 : Int32) &&& 31)).toInt64)) + (1 : Int64))) (FP.i2d (2 : Int32)))), .second, .val (.double (FP.ddiv (FP.l2d p1) (FP.i2d (1 : Int32)))), .second, .unset, .unset] [(.double (FP.i2d (p3 >>> ((10 : Int32) &&& 31)))), (.double (FP.ddiv (FP.l2d (((2 : Int64) * ((p3 >>> ((10 : Int32) &&& 31)).toInt64)) + (1 : Int64))) (FP.i2d (2 : Int32))))])) rfl (hb hby at_113) _ ?_
      show Steps p.tables e below (T49.setTop (mkF m 116 #[.val (.int p0), .val (.long p1), .second, .val (.long p2), .second, .val (.int p3), .val (.int p4), .val (.int (p3 >>> ((10 : Int32) &&& 31))), .val (.double (FP.ddiv (FP.l2d p1) (FP.i2d p0))), .second, .val (.double (FP.ddiv (FP.l2d p2) (FP.i2d p0))), .second, .val (.double (FP.ddiv (FP.l2d (((p3 >>> ((10 : Int32) &&& 31)).toInt64) * (p0.toInt64))) (FP.i2d p0))), .second, .val (.double (FP.ddiv (FP.l2d (((2 : Int64) * ((p3 >>> ((10 : Int32) &&& 31)).toInt64)) + (1 : Int64))) (FP.i2d (2 : Int32)))), .second, .val (.double (FP.ddiv (FP.l2d p1) (FP.i2d (1 : Int32)))), .second, .unset, .unset] [(.double (4602678819172646912 : UInt64)), (.double (FP.i2d (p3 >>> ((10 : Int32) &&& 31)))), (.double (FP.ddiv (FP.l2d (((2 : Int64) * ((p3 >>> ((10 : Int32) &&& 31)).toInt64)) + (1 : Int64))) (FP.i2d (2 : Int32))))])) _
      refine XS.daddS X49.here hx rfl (hb hby at_116) rfl (own_nn (own_half (own_small p3)).2.ne) (v := (FP.dadd (FP.i2d (p3 >>> ((10 : Int32) &&& 31))) (4602678819172646912 : UInt64))) rfl ?_
      show Steps p.tables e below (T49.setTop (mkF m 117 #[.val (.int p0), .val (.long p1), .second, .val (.long p2), .second, .val (.int p3), .val (.int p4), .val (.int (p3 >>> ((10 : Int32) &&& 31))), .val (.double (FP.ddiv (FP.l2d p1) (FP.i2d p0))), .second, .val (.double (FP.ddiv (FP.l2d p2) (FP.i2d p0))), .second, .val (.double (FP.ddiv (FP.l2d (((p3 >>> ((10 : Int32) &&& 31)).toInt64) * (p0.toInt64))) (FP.i2d p0))), .second, .val (.double (FP.ddiv (FP.l2d (((2 : Int64) * ((p3 >>> ((10 : Int32) &&& 31)).toInt64)) + (1 : Int64))) (FP.i2d (2 : Int32)))), .second, .val (.double (FP.ddiv (FP.l2d p1) (FP.i2d (1 : Int32)))), .second, .unset, .unset] [(.double (FP.dadd (FP.i2d (p3 >>> ((10 : Int32) &&& 31))) (4602678819172646912 : UInt64))), (.double (FP.ddiv (FP.l2d (((2 : Int64) * ((p3 >>> ((10 : Int32) &&& 31)).toInt64)) + (1 : Int64))) (FP.i2d (2 : Int32))))])) _
      refine XS.dcmpS X49.here hx rfl (hb hby at_117) rfl (v := (cmpValue (FP.dcmp (FP.ddiv (FP.l2d (((2 : Int64) * ((p3 >>> ((10 : Int32) &&& 31)).toInt64)) + (1 : Int64))) (FP.i2d (2 : Int32))) (FP.dadd (FP.i2d (p3 >>> ((10 : Int32) &&& 31))) (4602678819172646912 : UInt64))) .l)) rfl ?_
      show Steps p.tables e below (T49.setTop (mkF m 118 #[.val (.int p0), .val (.long p1), .second, .val (.long p2), .second, .val (.int p3), .val (.int p4), .val (.int (p3 >>> ((10 : Int32) &&& 31))), .val (.double (FP.ddiv (FP.l2d p1) (FP.i2d p0))), .second, .val (.double (FP.ddiv (FP.l2d p2) (FP.i2d p0))), .second, .val (.double (FP.ddiv (FP.l2d (((p3 >>> ((10 : Int32) &&& 31)).toInt64) * (p0.toInt64))) (FP.i2d p0))), .second, .val (.double (FP.ddiv (FP.l2d (((2 : Int64) * ((p3 >>> ((10 : Int32) &&& 31)).toInt64)) + (1 : Int64))) (FP.i2d (2 : Int32)))), .second, .val (.double (FP.ddiv (FP.l2d p1) (FP.i2d (1 : Int32)))), .second, .unset, .unset] [(.int (cmpValue (FP.dcmp (FP.ddiv (FP.l2d (((2 : Int64) * ((p3 >>> ((10 : Int32) &&& 31)).toInt64)) + (1 : Int64))) (FP.i2d (2 : Int32))) (FP.dadd (FP.i2d (p3 >>> ((10 : Int32) &&& 31))) (4602678819172646912 : UInt64))) .l))])) _
      refine XS.ifNo X49.here hx rfl (hb hby at_118) rfl ((if0 _ _).trans (teq (own_ceq (own_avF _ (by decide)).ne (own_half (own_small p3)).2.ne (own_half (own_small p3)).1 .l)).2) ?_
      show Steps p.tables e below (T49.setTop (mkF m 121 #[.val (.int p0), .val (.long p1), .second, .val (.long p2), .second, .val (.int p3), .val (.int p4), .val (.int (p3 >>> ((10 : Int32) &&& 31))), .val (.double (FP.ddiv (FP.l2d p1) (FP.i2d p0))), .second, .val (.double (FP.ddiv (FP.l2d p2) (FP.i2d p0))), .second, .val (.double (FP.ddiv (FP.l2d (((p3 >>> ((10 : Int32) &&& 31)).toInt64) * (p0.toInt64))) (FP.i2d p0))), .second, .val (.double (FP.ddiv (FP.l2d (((2 : Int64) * ((p3 >>> ((10 : Int32) &&& 31)).toInt64)) + (1 : Int64))) (FP.i2d (2 : Int32)))), .second, .val (.double (FP.ddiv (FP.l2d p1) (FP.i2d (1 : Int32)))), .second, .unset, .unset] [])) _
      refine XS.iconst X49.here hx rfl (hb hby at_121) ?_
      show Steps p.tables e below (T49.setTop (mkF m 122 #[.val (.int p0), .val (.long p1), .second, .val (.long p2), .second, .val (.int p3), .val (.int p4), .val (.int (p3 >>> ((10 : Int32) &&& 31))), .val (.double (FP.ddiv (FP.l2d p1) (FP.i2d p0))), .second, .val (.double (FP.ddiv (FP.l2d p2) (FP.i2d p0))), .second, .val (.double (FP.ddiv (FP.l2d (((p3 >>> ((10 : Int32) &&& 31)).toInt64) * (p0.toInt64))) (FP.i2d p0))), .second, .val (.double (FP.ddiv (FP.l2d (((2 : Int64) * ((p3 >>> ((10 : Int32) &&& 31)).toInt64)) + (1 : Int64))) (FP.i2d (2 : Int32)))), .second, .val (.double (FP.ddiv (FP.l2d p1) (FP.i2d (1 : Int32)))), .second, .unset, .unset] [(.int (1 : Int32))])) _
      refine XS.goto X49.here hx rfl (pc0 := 122) (pc' := 126) rfl (hb hby at_122) (by decide) (by decide) ?_
      show Steps p.tables e below (T49.setTop (mkF m 126 #[.val (.int p0), .val (.long p1), .second, .val (.long p2), .second, .val (.int p3), .val (.int p4), .val (.int (p3 >>> ((10 : Int32) &&& 31))), .val (.double (FP.ddiv (FP.l2d p1) (FP.i2d p0))), .second, .val (.double (FP.ddiv (FP.l2d p2) (FP.i2d p0))), .second, .val (.double (FP.ddiv (FP.l2d (((p3 >>> ((10 : Int32) &&& 31)).toInt64) * (p0.toInt64))) (FP.i2d p0))), .second, .val (.double (FP.ddiv (FP.l2d (((2 : Int64) * ((p3 >>> ((10 : Int32) &&& 31)).toInt64)) + (1 : Int64))) (FP.i2d (2 : Int32)))), .second, .val (.double (FP.ddiv (FP.l2d p1) (FP.i2d (1 : Int32)))), .second, .unset, .unset] [(.int (1 : Int32))])) _
      refine XS.istore X49.here hx rfl (hb hby at_126) rfl (l' := #[.val (.int p0), .val (.long p1), .second, .val (.long p2), .second, .val (.int p3), .val (.int p4), .val (.int (p3 >>> ((10 : Int32) &&& 31))), .val (.double (FP.ddiv (FP.l2d p1) (FP.i2d p0))), .second, .val (.double (FP.ddiv (FP.l2d p2) (FP.i2d p0))), .second, .val (.double (FP.ddiv (FP.l2d (((p3 >>> ((10 : Int32) &&& 31)).toInt64) * (p0.toInt64))) (FP.i2d p0))), .second, .val (.double (FP.ddiv (FP.l2d (((2 : Int64) * ((p3 >>> ((10 : Int32) &&& 31)).toInt64)) + (1 : Int64))) (FP.i2d (2 : Int32)))), .second, .val (.double (FP.ddiv (FP.l2d p1) (FP.i2d (1 : Int32)))), .second, .val (.int (1 : Int32)), .unset]) rfl ?_
      show Steps p.tables e below (T49.setTop (mkF m 128 #[.val (.int p0), .val (.long p1), .second, .val (.long p2), .second, .val (.int p3), .val (.int p4), .val (.int (p3 >>> ((10 : Int32) &&& 31))), .val (.double (FP.ddiv (FP.l2d p1) (FP.i2d p0))), .second, .val (.double (FP.ddiv (FP.l2d p2) (FP.i2d p0))), .second, .val (.double (FP.ddiv (FP.l2d (((p3 >>> ((10 : Int32) &&& 31)).toInt64) * (p0.toInt64))) (FP.i2d p0))), .second, .val (.double (FP.ddiv (FP.l2d (((2 : Int64) * ((p3 >>> ((10 : Int32) &&& 31)).toInt64)) + (1 : Int64))) (FP.i2d (2 : Int32)))), .second, .val (.double (FP.ddiv (FP.l2d p1) (FP.i2d (1 : Int32)))), .second, .val (.int (1 : Int32)), .unset] [])) _
      refine XS.iloadN X49.here hx rfl (hb hby at_128) rfl ?_
      show Steps p.tables e below (T49.setTop (mkF m 129 #[.val (.int p0), .val (.long p1), .second, .val (.long p2), .second, .val (.int p3), .val (.int p4), .val (.int (p3 >>> ((10 : Int32) &&& 31))), .val (.double (FP.ddiv (FP.l2d p1) (FP.i2d p0))), .second, .val (.double (FP.ddiv (FP.l2d p2) (FP.i2d p0))), .second, .val (.double (FP.ddiv (FP.l2d (((p3 >>> ((10 : Int32) &&& 31)).toInt64) * (p0.toInt64))) (FP.i2d p0))), .second, .val (.double (FP.ddiv (FP.l2d (((2 : Int64) * ((p3 >>> ((10 : Int32) &&& 31)).toInt64)) + (1 : Int64))) (FP.i2d (2 : Int32)))), .second, .val (.double (FP.ddiv (FP.l2d p1) (FP.i2d (1 : Int32)))), .second, .val (.int (1 : Int32)), .unset] [(.int p0)])) _
      refine XS.ifYes X49.here hx rfl (pc0 := 129) (pc' := 164) rfl (hb hby at_129) rfl ((if0 _ _).trans (feq hd0).2) (by decide) (by decide) ?_
      show Steps p.tables e below (T49.setTop (mkF m 164 #[.val (.int p0), .val (.long p1), .second, .val (.long p2), .second, .val (.int p3), .val (.int p4), .val (.int (p3 >>> ((10 : Int32) &&& 31))), .val (.double (FP.ddiv (FP.l2d p1) (FP.i2d p0))), .second, .val (.double (FP.ddiv (FP.l2d p2) (FP.i2d p0))), .second, .val (.double (FP.ddiv (FP.l2d (((p3 >>> ((10 : Int32) &&& 31)).toInt64) * (p0.toInt64))) (FP.i2d p0))), .second, .val (.double (FP.ddiv (FP.l2d (((2 : Int64) * ((p3 >>> ((10 : Int32) &&& 31)).toInt64)) + (1 : Int64))) (FP.i2d (2 : Int32)))), .second, .val (.double (FP.ddiv (FP.l2d p1) (FP.i2d (1 : Int32)))), .second, .val (.int (1 : Int32)), .unset] [])) _
      refine XS.iload X49.here hx rfl (hb hby at_164) rfl ?_
      show Steps p.tables e below (T49.setTop (mkF m 166 #[.val (.int p0), .val (.long p1), .second, .val (.long p2), .second, .val (.int p3), .val (.int p4), .val (.int (p3 >>> ((10 : Int32) &&& 31))), .val (.double (FP.ddiv (FP.l2d p1) (FP.i2d p0))), .second, .val (.double (FP.ddiv (FP.l2d p2) (FP.i2d p0))), .second, .val (.double (FP.ddiv (FP.l2d (((p3 >>> ((10 : Int32) &&& 31)).toInt64) * (p0.toInt64))) (FP.i2d p0))), .second, .val (.double (FP.ddiv (FP.l2d (((2 : Int64) * ((p3 >>> ((10 : Int32) &&& 31)).toInt64)) + (1 : Int64))) (FP.i2d (2 : Int32)))), .second, .val (.double (FP.ddiv (FP.l2d p1) (FP.i2d (1 : Int32)))), .second, .val (.int (1 : Int32)), .unset] [(.int (1 : Int32))])) _
      refine XS.ifNo X49.here hx rfl (hb hby at_166) rfl (by decide) ?_
      show Steps p.tables e below (T49.setTop (mkF m 169 #[.val (.int p0), .val (.long p1), .second, .val (.long p2), .second, .val (.int p3), .val (.int p4), .val (.int (p3 >>> ((10 : Int32) &&& 31))), .val (.double (FP.ddiv (FP.l2d p1) (FP.i2d p0))), .second, .val (.double (FP.ddiv (FP.l2d p2) (FP.i2d p0))), .second, .val (.double (FP.ddiv (FP.l2d (((p3 >>> ((10 : Int32) &&& 31)).toInt64) * (p0.toInt64))) (FP.i2d p0))), .second, .val (.double (FP.ddiv (FP.l2d (((2 : Int64) * ((p3 >>> ((10 : Int32) &&& 31)).toInt64)) + (1 : Int64))) (FP.i2d (2 : Int32)))), .second, .val (.double (FP.ddiv (FP.l2d p1) (FP.i2d (1 : Int32)))), .second, .val (.int (1 : Int32)), .unset] [])) _
      refine XS.dload X49.here hx rfl (hb hby at_169) rfl ?_
      show Steps p.tables e below (T49.setTop (mkF m 171 #[.val (.int p0), .val (.long p1), .second, .val (.long p2), .second, .val (.int p3), .val (.int p4), .val (.int (p3 >>> ((10 : Int32) &&& 31))), .val (.double (FP.ddiv (FP.l2d p1) (FP.i2d p0))), .second, .val (.double (FP.ddiv (FP.l2d p2) (FP.i2d p0))), .second, .val (.double (FP.ddiv (FP.l2d (((p3 >>> ((10 : Int32) &&& 31)).toInt64) * (p0.toInt64))) (FP.i2d p0))), .second, .val (.double (FP.ddiv (FP.l2d (((2 : Int64) * ((p3 >>> ((10 : Int32) &&& 31)).toInt64)) + (1 : Int64))) (FP.i2d (2 : Int32)))), .second, .val (.double (FP.ddiv (FP.l2d p1) (FP.i2d (1 : Int32)))), .second, .val (.int (1 : Int32)), .unset] [(.double (FP.ddiv (FP.l2d (((p3 >>> ((10 : Int32) &&& 31)).toInt64) * (p0.toInt64))) (FP.i2d p0)))])) _
      refine XS.iload X49.here hx rfl (hb hby at_171) rfl ?_
      show Steps p.tables e below (T49.setTop (mkF m 173 #[.val (.int p0), .val (.long p1), .second, .val (.long p2), .second, .val (.int p3), .val (.int p4), .val (.int (p3 >>> ((10 : Int32) &&& 31))), .val (.double (FP.ddiv (FP.l2d p1) (FP.i2d p0))), .second, .val (.double (FP.ddiv (FP.l2d p2) (FP.i2d p0))), .second, .val (.double (FP.ddiv (FP.l2d (((p3 >>> ((10 : Int32) &&& 31)).toInt64) * (p0.toInt64))) (FP.i2d p0))), .second, .val (.double (FP.ddiv (FP.l2d (((2 : Int64) * ((p3 >>> ((10 : Int32) &&& 31)).toInt64)) + (1 : Int64))) (FP.i2d (2 : Int32)))), .second, .val (.double (FP.ddiv (FP.l2d p1) (FP.i2d (1 : Int32)))), .second, .val (.int (1 : Int32)), .unset] [(.int (p3 >>> ((10 : Int32) &&& 31))), (.double (FP.ddiv (FP.l2d (((p3 >>> ((10 : Int32) &&& 31)).toInt64) * (p0.toInt64))) (FP.i2d p0)))])) _
      refine XS.i2dS X49.here hx rfl (hb hby at_173) rfl (v := FP.i2d (p3 >>> ((10 : Int32) &&& 31))) rfl ?_
      show Steps p.tables e below (T49.setTop (mkF m 174 #[.val (.int p0), .val (.long p1), .second, .val (.long p2), .second, .val (.int p3), .val (.int p4), .val (.int (p3 >>> ((10 : Int32) &&& 31))), .val (.double (FP.ddiv (FP.l2d p1) (FP.i2d p0))), .second, .val (.double (FP.ddiv (FP.l2d p2) (FP.i2d p0))), .second, .val (.double (FP.ddiv (FP.l2d (((p3 >>> ((10 : Int32) &&& 31)).toInt64) * (p0.toInt64))) (FP.i2d p0))), .second, .val (.double (FP.ddiv (FP.l2d (((2 : Int64) * ((p3 >>> ((10 : Int32) &&& 31)).toInt64)) + (1 : Int64))) (FP.i2d (2 : Int32)))), .second, .val (.double (FP.ddiv (FP.l2d p1) (FP.i2d (1 : Int32)))), .second, .val (.int (1 : Int32)), .unset] [(.double (FP.i2d (p3 >>> ((10 : Int32) &&& 31)))), (.double (FP.ddiv (FP.l2d (((p3 >>> ((10 : Int32) &&& 31)).toInt64) * (p0.toInt64))) (FP.i2d p0)))])) _
      refine XS.dcmpS X49.here hx rfl (hb hby at_174) rfl (v := (cmpValue (FP.dcmp (FP.ddiv (FP.l2d (((p3 >>> ((10 : Int32) &&& 31)).toInt64) * (p0.toInt64))) (FP.i2d p0)) (FP.i2d (p3 >>> ((10 : Int32) &&& 31)))) .l)) rfl ?_
      show Steps p.tables e below (T49.setTop (mkF m 175 #[.val (.int p0), .val (.long p1), .second, .val (.long p2), .second, .val (.int p3), .val (.int p4), .val (.int (p3 >>> ((10 : Int32) &&& 31))), .val (.double (FP.ddiv (FP.l2d p1) (FP.i2d p0))), .second, .val (.double (FP.ddiv (FP.l2d p2) (FP.i2d p0))), .second, .val (.double (FP.ddiv (FP.l2d (((p3 >>> ((10 : Int32) &&& 31)).toInt64) * (p0.toInt64))) (FP.i2d p0))), .second, .val (.double (FP.ddiv (FP.l2d (((2 : Int64) * ((p3 >>> ((10 : Int32) &&& 31)).toInt64)) + (1 : Int64))) (FP.i2d (2 : Int32)))), .second, .val (.double (FP.ddiv (FP.l2d p1) (FP.i2d (1 : Int32)))), .second, .val (.int (1 : Int32)), .unset] [(.int (cmpValue (FP.dcmp (FP.ddiv (FP.l2d (((p3 >>> ((10 : Int32) &&& 31)).toInt64) * (p0.toInt64))) (FP.i2d p0)) (FP.i2d (p3 >>> ((10 : Int32) &&& 31)))) .l))])) _
      refine XS.ifNo X49.here hx rfl (hb hby at_175) rfl ((if0 _ _).trans (teq (own_ceq (own_avF _ hd0).ne (own_i2dF _).ne (own_whole (own_small p3) hd0) .l)).2) ?_
      show Steps p.tables e below (T49.setTop (mkF m 178 #[.val (.int p0), .val (.long p1), .second, .val (.long p2), .second, .val (.int p3), .val (.int p4), .val (.int (p3 >>> ((10 : Int32) &&& 31))), .val (.double (FP.ddiv (FP.l2d p1) (FP.i2d p0))), .second, .val (.double (FP.ddiv (FP.l2d p2) (FP.i2d p0))), .second, .val (.double (FP.ddiv (FP.l2d (((p3 >>> ((10 : Int32) &&& 31)).toInt64) * (p0.toInt64))) (FP.i2d p0))), .second, .val (.double (FP.ddiv (FP.l2d (((2 : Int64) * ((p3 >>> ((10 : Int32) &&& 31)).toInt64)) + (1 : Int64))) (FP.i2d (2 : Int32)))), .second, .val (.double (FP.ddiv (FP.l2d p1) (FP.i2d (1 : Int32)))), .second, .val (.int (1 : Int32)), .unset] [])) _
      refine XS.iconst X49.here hx rfl (hb hby at_178) ?_
      show Steps p.tables e below (T49.setTop (mkF m 179 #[.val (.int p0), .val (.long p1), .second, .val (.long p2), .second, .val (.int p3), .val (.int p4), .val (.int (p3 >>> ((10 : Int32) &&& 31))), .val (.double (FP.ddiv (FP.l2d p1) (FP.i2d p0))), .second, .val (.double (FP.ddiv (FP.l2d p2) (FP.i2d p0))), .second, .val (.double (FP.ddiv (FP.l2d (((p3 >>> ((10 : Int32) &&& 31)).toInt64) * (p0.toInt64))) (FP.i2d p0))), .second, .val (.double (FP.ddiv (FP.l2d (((2 : Int64) * ((p3 >>> ((10 : Int32) &&& 31)).toInt64)) + (1 : Int64))) (FP.i2d (2 : Int32)))), .second, .val (.double (FP.ddiv (FP.l2d p1) (FP.i2d (1 : Int32)))), .second, .val (.int (1 : Int32)), .unset] [(.int (1 : Int32))])) _
      refine XS.goto X49.here hx rfl (pc0 := 179) (pc' := 183) rfl (hb hby at_179) (by decide) (by decide) ?_
      show Steps p.tables e below (T49.setTop (mkF m 183 #[.val (.int p0), .val (.long p1), .second, .val (.long p2), .second, .val (.int p3), .val (.int p4), .val (.int (p3 >>> ((10 : Int32) &&& 31))), .val (.double (FP.ddiv (FP.l2d p1) (FP.i2d p0))), .second, .val (.double (FP.ddiv (FP.l2d p2) (FP.i2d p0))), .second, .val (.double (FP.ddiv (FP.l2d (((p3 >>> ((10 : Int32) &&& 31)).toInt64) * (p0.toInt64))) (FP.i2d p0))), .second, .val (.double (FP.ddiv (FP.l2d (((2 : Int64) * ((p3 >>> ((10 : Int32) &&& 31)).toInt64)) + (1 : Int64))) (FP.i2d (2 : Int32)))), .second, .val (.double (FP.ddiv (FP.l2d p1) (FP.i2d (1 : Int32)))), .second, .val (.int (1 : Int32)), .unset] [(.int (1 : Int32))])) _
      refine XS.istore X49.here hx rfl (hb hby at_183) rfl (l' := #[.val (.int p0), .val (.long p1), .second, .val (.long p2), .second, .val (.int p3), .val (.int p4), .val (.int (p3 >>> ((10 : Int32) &&& 31))), .val (.double (FP.ddiv (FP.l2d p1) (FP.i2d p0))), .second, .val (.double (FP.ddiv (FP.l2d p2) (FP.i2d p0))), .second, .val (.double (FP.ddiv (FP.l2d (((p3 >>> ((10 : Int32) &&& 31)).toInt64) * (p0.toInt64))) (FP.i2d p0))), .second, .val (.double (FP.ddiv (FP.l2d (((2 : Int64) * ((p3 >>> ((10 : Int32) &&& 31)).toInt64)) + (1 : Int64))) (FP.i2d (2 : Int32)))), .second, .val (.double (FP.ddiv (FP.l2d p1) (FP.i2d (1 : Int32)))), .second, .val (.int (1 : Int32)), .unset]) rfl ?_
      show Steps p.tables e below (T49.setTop (mkF m 185 #[.val (.int p0), .val (.long p1), .second, .val (.long p2), .second, .val (.int p3), .val (.int p4), .val (.int (p3 >>> ((10 : Int32) &&& 31))), .val (.double (FP.ddiv (FP.l2d p1) (FP.i2d p0))), .second, .val (.double (FP.ddiv (FP.l2d p2) (FP.i2d p0))), .second, .val (.double (FP.ddiv (FP.l2d (((p3 >>> ((10 : Int32) &&& 31)).toInt64) * (p0.toInt64))) (FP.i2d p0))), .second, .val (.double (FP.ddiv (FP.l2d (((2 : Int64) * ((p3 >>> ((10 : Int32) &&& 31)).toInt64)) + (1 : Int64))) (FP.i2d (2 : Int32)))), .second, .val (.double (FP.ddiv (FP.l2d p1) (FP.i2d (1 : Int32)))), .second, .val (.int (1 : Int32)), .unset] [])) _
      refine XS.iloadN X49.here hx rfl (hb hby at_185) rfl ?_
      exact kt)
    by_cases hc52 : (0 : Int32) < p0
    · skip
      have pre53 : ∀ t, Steps p.tables e below (T49.setTop (mkF m 199 #[.val (.int p0), .val (.long p1), .second, .val (.long p2), .second, .val (.int p3), .val (.int p4), .val (.int (p3 >>> ((10 : Int32) &&& 31))), .val (.double (FP.ddiv (FP.l2d p1) (FP.i2d p0))), .second, .val (.double (FP.ddiv (FP.l2d p2) (FP.i2d p0))), .second, .val (.double (FP.ddiv (FP.l2d (((p3 >>> ((10 : Int32) &&& 31)).toInt64) * (p0.toInt64))) (FP.i2d p0))), .second, .val (.double (FP.ddiv (FP.l2d (((2 : Int64) * ((p3 >>> ((10 : Int32) &&& 31)).toInt64)) + (1 : Int64))) (FP.i2d (2 : Int32)))), .second, .val (.double (FP.ddiv (FP.l2d p1) (FP.i2d (1 : Int32)))), .second, .val (.int (1 : Int32)), .val (.int (1 : Int32))] [(.int (lcmpW p1 p2))])) t → Steps p.tables e below (s₁.setTop (entryFrame m #[(.int p0), (.long p1), (.long p2), (.int p3), (.int p4)] maxLocals)) t := fun t kt => pre51 t (by
        show Steps p.tables e below (T49.setTop (mkF m 186 #[.val (.int p0), .val (.long p1), .second, .val (.long p2), .second, .val (.int p3), .val (.int p4), .val (.int (p3 >>> ((10 : Int32) &&& 31))), .val (.double (FP.ddiv (FP.l2d p1) (FP.i2d p0))), .second, .val (.double (FP.ddiv (FP.l2d p2) (FP.i2d p0))), .second, .val (.double (FP.ddiv (FP.l2d (((p3 >>> ((10 : Int32) &&& 31)).toInt64) * (p0.toInt64))) (FP.i2d p0))), .second, .val (.double (FP.ddiv (FP.l2d (((2 : Int64) * ((p3 >>> ((10 : Int32) &&& 31)).toInt64)) + (1 : Int64))) (FP.i2d (2 : Int32)))), .second, .val (.double (FP.ddiv (FP.l2d p1) (FP.i2d (1 : Int32)))), .second, .val (.int (1 : Int32)), .unset] [(.int p0)])) _
        refine XS.ifNo X49.here hx rfl (hb hby at_186) rfl ((if0 _ _).trans (tlt hc52).2.2.2) ?_
        show Steps p.tables e below (T49.setTop (mkF m 189 #[.val (.int p0), .val (.long p1), .second, .val (.long p2), .second, .val (.int p3), .val (.int p4), .val (.int (p3 >>> ((10 : Int32) &&& 31))), .val (.double (FP.ddiv (FP.l2d p1) (FP.i2d p0))), .second, .val (.double (FP.ddiv (FP.l2d p2) (FP.i2d p0))), .second, .val (.double (FP.ddiv (FP.l2d (((p3 >>> ((10 : Int32) &&& 31)).toInt64) * (p0.toInt64))) (FP.i2d p0))), .second, .val (.double (FP.ddiv (FP.l2d (((2 : Int64) * ((p3 >>> ((10 : Int32) &&& 31)).toInt64)) + (1 : Int64))) (FP.i2d (2 : Int32)))), .second, .val (.double (FP.ddiv (FP.l2d p1) (FP.i2d (1 : Int32)))), .second, .val (.int (1 : Int32)), .unset] [])) _
        refine XS.iconst X49.here hx rfl (hb hby at_189) ?_
        show Steps p.tables e below (T49.setTop (mkF m 190 #[.val (.int p0), .val (.long p1), .second, .val (.long p2), .second, .val (.int p3), .val (.int p4), .val (.int (p3 >>> ((10 : Int32) &&& 31))), .val (.double (FP.ddiv (FP.l2d p1) (FP.i2d p0))), .second, .val (.double (FP.ddiv (FP.l2d p2) (FP.i2d p0))), .second, .val (.double (FP.ddiv (FP.l2d (((p3 >>> ((10 : Int32) &&& 31)).toInt64) * (p0.toInt64))) (FP.i2d p0))), .second, .val (.double (FP.ddiv (FP.l2d (((2 : Int64) * ((p3 >>> ((10 : Int32) &&& 31)).toInt64)) + (1 : Int64))) (FP.i2d (2 : Int32)))), .second, .val (.double (FP.ddiv (FP.l2d p1) (FP.i2d (1 : Int32)))), .second, .val (.int (1 : Int32)), .unset] [(.int (1 : Int32))])) _
        refine XS.goto X49.here hx rfl (pc0 := 190) (pc' := 194) rfl (hb hby at_190) (by decide) (by decide) ?_
        show Steps p.tables e below (T49.setTop (mkF m 194 #[.val (.int p0), .val (.long p1), .second, .val (.long p2), .second, .val (.int p3), .val (.int p4), .val (.int (p3 >>> ((10 : Int32) &&& 31))), .val (.double (FP.ddiv (FP.l2d p1) (FP.i2d p0))), .second, .val (.double (FP.ddiv (FP.l2d p2) (FP.i2d p0))), .second, .val (.double (FP.ddiv (FP.l2d (((p3 >>> ((10 : Int32) &&& 31)).toInt64) * (p0.toInt64))) (FP.i2d p0))), .second, .val (.double (FP.ddiv (FP.l2d (((2 : Int64) * ((p3 >>> ((10 : Int32) &&& 31)).toInt64)) + (1 : Int64))) (FP.i2d (2 : Int32)))), .second, .val (.double (FP.ddiv (FP.l2d p1) (FP.i2d (1 : Int32)))), .second, .val (.int (1 : Int32)), .unset] [(.int (1 : Int32))])) _
        refine XS.istore X49.here hx rfl (hb hby at_194) rfl (l' := #[.val (.int p0), .val (.long p1), .second, .val (.long p2), .second, .val (.int p3), .val (.int p4), .val (.int (p3 >>> ((10 : Int32) &&& 31))), .val (.double (FP.ddiv (FP.l2d p1) (FP.i2d p0))), .second, .val (.double (FP.ddiv (FP.l2d p2) (FP.i2d p0))), .second, .val (.double (FP.ddiv (FP.l2d (((p3 >>> ((10 : Int32) &&& 31)).toInt64) * (p0.toInt64))) (FP.i2d p0))), .second, .val (.double (FP.ddiv (FP.l2d (((2 : Int64) * ((p3 >>> ((10 : Int32) &&& 31)).toInt64)) + (1 : Int64))) (FP.i2d (2 : Int32)))), .second, .val (.double (FP.ddiv (FP.l2d p1) (FP.i2d (1 : Int32)))), .second, .val (.int (1 : Int32)), .val (.int (1 : Int32))]) rfl ?_
        show Steps p.tables e below (T49.setTop (mkF m 196 #[.val (.int p0), .val (.long p1), .second, .val (.long p2), .second, .val (.int p3), .val (.int p4), .val (.int (p3 >>> ((10 : Int32) &&& 31))), .val (.double (FP.ddiv (FP.l2d p1) (FP.i2d p0))), .second, .val (.double (FP.ddiv (FP.l2d p2) (FP.i2d p0))), .second, .val (.double (FP.ddiv (FP.l2d (((p3 >>> ((10 : Int32) &&& 31)).toInt64) * (p0.toInt64))) (FP.i2d p0))), .second, .val (.double (FP.ddiv (FP.l2d (((2 : Int64) * ((p3 >>> ((10 : Int32) &&& 31)).toInt64)) + (1 : Int64))) (FP.i2d (2 : Int32)))), .second, .val (.double (FP.ddiv (FP.l2d p1) (FP.i2d (1 : Int32)))), .second, .val (.int (1 : Int32)), .val (.int (1 : Int32))] [])) _
        refine XS.lloadN X49.here hx rfl (hb hby at_196) rfl ?_
        show Steps p.tables e below (T49.setTop (mkF m 197 #[.val (.int p0), .val (.long p1), .second, .val (.long p2), .second, .val (.int p3), .val (.int p4), .val (.int (p3 >>> ((10 : Int32) &&& 31))), .val (.double (FP.ddiv (FP.l2d p1) (FP.i2d p0))), .second, .val (.double (FP.ddiv (FP.l2d p2) (FP.i2d p0))), .second, .val (.double (FP.ddiv (FP.l2d (((p3 >>> ((10 : Int32) &&& 31)).toInt64) * (p0.toInt64))) (FP.i2d p0))), .second, .val (.double (FP.ddiv (FP.l2d (((2 : Int64) * ((p3 >>> ((10 : Int32) &&& 31)).toInt64)) + (1 : Int64))) (FP.i2d (2 : Int32)))), .second, .val (.double (FP.ddiv (FP.l2d p1) (FP.i2d (1 : Int32)))), .second, .val (.int (1 : Int32)), .val (.int (1 : Int32))] [(.long p1)])) _
        refine XS.lloadN X49.here hx rfl (hb hby at_197) rfl ?_
        show Steps p.tables e below (T49.setTop (mkF m 198 #[.val (.int p0), .val (.long p1), .second, .val (.long p2), .second, .val (.int p3), .val (.int p4), .val (.int (p3 >>> ((10 : Int32) &&& 31))), .val (.double (FP.ddiv (FP.l2d p1) (FP.i2d p0))), .second, .val (.double (FP.ddiv (FP.l2d p2) (FP.i2d p0))), .second, .val (.double (FP.ddiv (FP.l2d (((p3 >>> ((10 : Int32) &&& 31)).toInt64) * (p0.toInt64))) (FP.i2d p0))), .second, .val (.double (FP.ddiv (FP.l2d (((2 : Int64) * ((p3 >>> ((10 : Int32) &&& 31)).toInt64)) + (1 : Int64))) (FP.i2d (2 : Int32)))), .second, .val (.double (FP.ddiv (FP.l2d p1) (FP.i2d (1 : Int32)))), .second, .val (.int (1 : Int32)), .val (.int (1 : Int32))] [(.long p2), (.long p1)])) _
        refine XS.lcmp X49.here hx rfl (hb hby at_198) rfl ?_
        exact kt)
      by_cases hc54 : (0 : Int32) < (lcmpW p1 p2)
      · skip
        obtain ⟨fs, hr, hrun, hended, hW, hsame⟩ := X49.leave (v := (some (.int (1 : Int32)))) (fun h => by rw [Bd.returns] at h; cases h)
        refine ⟨_, _, pre53 _ ?_, hrun, hended, _, _, rfl, ?_, ⟨_, rfl⟩, hW, hsame.mono (by decide) (by decide)⟩
        · show Steps p.tables e below (T49.setTop (mkF m 199 #[.val (.int p0), .val (.long p1), .second, .val (.long p2), .second, .val (.int p3), .val (.int p4), .val (.int (p3 >>> ((10 : Int32) &&& 31))), .val (.double (FP.ddiv (FP.l2d p1) (FP.i2d p0))), .second, .val (.double (FP.ddiv (FP.l2d p2) (FP.i2d p0))), .second, .val (.double (FP.ddiv (FP.l2d (((p3 >>> ((10 : Int32) &&& 31)).toInt64) * (p0.toInt64))) (FP.i2d p0))), .second, .val (.double (FP.ddiv (FP.l2d (((2 : Int64) * ((p3 >>> ((10 : Int32) &&& 31)).toInt64)) + (1 : Int64))) (FP.i2d (2 : Int32)))), .second, .val (.double (FP.ddiv (FP.l2d p1) (FP.i2d (1 : Int32)))), .second, .val (.int (1 : Int32)), .val (.int (1 : Int32))] [(.int (lcmpW p1 p2))])) _
          refine XS.ifYes X49.here hx rfl (pc0 := 199) (pc' := 241) rfl (hb hby at_199) rfl ((if0 _ _).trans (tlt hc54).2.2.1) (by decide) (by decide) ?_
          show Steps p.tables e below (T49.setTop (mkF m 241 #[.val (.int p0), .val (.long p1), .second, .val (.long p2), .second, .val (.int p3), .val (.int p4), .val (.int (p3 >>> ((10 : Int32) &&& 31))), .val (.double (FP.ddiv (FP.l2d p1) (FP.i2d p0))), .second, .val (.double (FP.ddiv (FP.l2d p2) (FP.i2d p0))), .second, .val (.double (FP.ddiv (FP.l2d (((p3 >>> ((10 : Int32) &&& 31)).toInt64) * (p0.toInt64))) (FP.i2d p0))), .second, .val (.double (FP.ddiv (FP.l2d (((2 : Int64) * ((p3 >>> ((10 : Int32) &&& 31)).toInt64)) + (1 : Int64))) (FP.i2d (2 : Int32)))), .second, .val (.double (FP.ddiv (FP.l2d p1) (FP.i2d (1 : Int32)))), .second, .val (.int (1 : Int32)), .val (.int (1 : Int32))] [])) _
          refine XS.iload X49.here hx rfl (hb hby at_241) rfl ?_
          show Steps p.tables e below (T49.setTop (mkF m 243 #[.val (.int p0), .val (.long p1), .second, .val (.long p2), .second, .val (.int p3), .val (.int p4), .val (.int (p3 >>> ((10 : Int32) &&& 31))), .val (.double (FP.ddiv (FP.l2d p1) (FP.i2d p0))), .second, .val (.double (FP.ddiv (FP.l2d p2) (FP.i2d p0))), .second, .val (.double (FP.ddiv (FP.l2d (((p3 >>> ((10 : Int32) &&& 31)).toInt64) * (p0.toInt64))) (FP.i2d p0))), .second, .val (.double (FP.ddiv (FP.l2d (((2 : Int64) * ((p3 >>> ((10 : Int32) &&& 31)).toInt64)) + (1 : Int64))) (FP.i2d (2 : Int32)))), .second, .val (.double (FP.ddiv (FP.l2d p1) (FP.i2d (1 : Int32)))), .second, .val (.int (1 : Int32)), .val (.int (1 : Int32))] [(.int (1 : Int32))])) _
          refine XS.ifNo X49.here hx rfl (hb hby at_243) rfl (by decide) ?_
          show Steps p.tables e below (T49.setTop (mkF m 246 #[.val (.int p0), .val (.long p1), .second, .val (.long p2), .second, .val (.int p3), .val (.int p4), .val (.int (p3 >>> ((10 : Int32) &&& 31))), .val (.double (FP.ddiv (FP.l2d p1) (FP.i2d p0))), .second, .val (.double (FP.ddiv (FP.l2d p2) (FP.i2d p0))), .second, .val (.double (FP.ddiv (FP.l2d (((p3 >>> ((10 : Int32) &&& 31)).toInt64) * (p0.toInt64))) (FP.i2d p0))), .second, .val (.double (FP.ddiv (FP.l2d (((2 : Int64) * ((p3 >>> ((10 : Int32) &&& 31)).toInt64)) + (1 : Int64))) (FP.i2d (2 : Int32)))), .second, .val (.double (FP.ddiv (FP.l2d p1) (FP.i2d (1 : Int32)))), .second, .val (.int (1 : Int32)), .val (.int (1 : Int32))] [])) _
          refine XS.iload X49.here hx rfl (hb hby at_246) rfl ?_
          show Steps p.tables e below (T49.setTop (mkF m 248 #[.val (.int p0), .val (.long p1), .second, .val (.long p2), .second, .val (.int p3), .val (.int p4), .val (.int (p3 >>> ((10 : Int32) &&& 31))), .val (.double (FP.ddiv (FP.l2d p1) (FP.i2d p0))), .second, .val (.double (FP.ddiv (FP.l2d p2) (FP.i2d p0))), .second, .val (.double (FP.ddiv (FP.l2d (((p3 >>> ((10 : Int32) &&& 31)).toInt64) * (p0.toInt64))) (FP.i2d p0))), .second, .val (.double (FP.ddiv (FP.l2d (((2 : Int64) * ((p3 >>> ((10 : Int32) &&& 31)).toInt64)) + (1 : Int64))) (FP.i2d (2 : Int32)))), .second, .val (.double (FP.ddiv (FP.l2d p1) (FP.i2d (1 : Int32)))), .second, .val (.int (1 : Int32)), .val (.int (1 : Int32))] [(.int (1 : Int32))])) _
          refine XS.ifNo X49.here hx rfl (hb hby at_248) rfl (by decide) ?_
          show Steps p.tables e below (T49.setTop (mkF m 251 #[.val (.int p0), .val (.long p1), .second, .val (.long p2), .second, .val (.int p3), .val (.int p4), .val (.int (p3 >>> ((10 : Int32) &&& 31))), .val (.double (FP.ddiv (FP.l2d p1) (FP.i2d p0))), .second, .val (.double (FP.ddiv (FP.l2d p2) (FP.i2d p0))), .second, .val (.double (FP.ddiv (FP.l2d (((p3 >>> ((10 : Int32) &&& 31)).toInt64) * (p0.toInt64))) (FP.i2d p0))), .second, .val (.double (FP.ddiv (FP.l2d (((2 : Int64) * ((p3 >>> ((10 : Int32) &&& 31)).toInt64)) + (1 : Int64))) (FP.i2d (2 : Int32)))), .second, .val (.double (FP.ddiv (FP.l2d p1) (FP.i2d (1 : Int32)))), .second, .val (.int (1 : Int32)), .val (.int (1 : Int32))] [])) _
          refine XS.dload X49.here hx rfl (hb hby at_251) rfl ?_
          show Steps p.tables e below (T49.setTop (mkF m 253 #[.val (.int p0), .val (.long p1), .second, .val (.long p2), .second, .val (.int p3), .val (.int p4), .val (.int (p3 >>> ((10 : Int32) &&& 31))), .val (.double (FP.ddiv (FP.l2d p1) (FP.i2d p0))), .second, .val (.double (FP.ddiv (FP.l2d p2) (FP.i2d p0))), .second, .val (.double (FP.ddiv (FP.l2d (((p3 >>> ((10 : Int32) &&& 31)).toInt64) * (p0.toInt64))) (FP.i2d p0))), .second, .val (.double (FP.ddiv (FP.l2d (((2 : Int64) * ((p3 >>> ((10 : Int32) &&& 31)).toInt64)) + (1 : Int64))) (FP.i2d (2 : Int32)))), .second, .val (.double (FP.ddiv (FP.l2d p1) (FP.i2d (1 : Int32)))), .second, .val (.int (1 : Int32)), .val (.int (1 : Int32))] [(.double (FP.ddiv (FP.l2d p1) (FP.i2d p0)))])) _
          refine XS.dload X49.here hx rfl (hb hby at_253) rfl ?_
          show Steps p.tables e below (T49.setTop (mkF m 255 #[.val (.int p0), .val (.long p1), .second, .val (.long p2), .second, .val (.int p3), .val (.int p4), .val (.int (p3 >>> ((10 : Int32) &&& 31))), .val (.double (FP.ddiv (FP.l2d p1) (FP.i2d p0))), .second, .val (.double (FP.ddiv (FP.l2d p2) (FP.i2d p0))), .second, .val (.double (FP.ddiv (FP.l2d (((p3 >>> ((10 : Int32) &&& 31)).toInt64) * (p0.toInt64))) (FP.i2d p0))), .second, .val (.double (FP.ddiv (FP.l2d (((2 : Int64) * ((p3 >>> ((10 : Int32) &&& 31)).toInt64)) + (1 : Int64))) (FP.i2d (2 : Int32)))), .second, .val (.double (FP.ddiv (FP.l2d p1) (FP.i2d (1 : Int32)))), .second, .val (.int (1 : Int32)), .val (.int (1 : Int32))] [(.double (FP.ddiv (FP.l2d p2) (FP.i2d p0))), (.double (FP.ddiv (FP.l2d p1) (FP.i2d p0)))])) _
          refine XS.dcmpS X49.here hx rfl (hb hby at_255) rfl (v := (cmpValue (FP.dcmp (FP.ddiv (FP.l2d p1) (FP.i2d p0)) (FP.ddiv (FP.l2d p2) (FP.i2d p0))) .l)) rfl ?_
          show Steps p.tables e below (T49.setTop (mkF m 256 #[.val (.int p0), .val (.long p1), .second, .val (.long p2), .second, .val (.int p3), .val (.int p4), .val (.int (p3 >>> ((10 : Int32) &&& 31))), .val (.double (FP.ddiv (FP.l2d p1) (FP.i2d p0))), .second, .val (.double (FP.ddiv (FP.l2d p2) (FP.i2d p0))), .second, .val (.double (FP.ddiv (FP.l2d (((p3 >>> ((10 : Int32) &&& 31)).toInt64) * (p0.toInt64))) (FP.i2d p0))), .second, .val (.double (FP.ddiv (FP.l2d (((2 : Int64) * ((p3 >>> ((10 : Int32) &&& 31)).toInt64)) + (1 : Int64))) (FP.i2d (2 : Int32)))), .second, .val (.double (FP.ddiv (FP.l2d p1) (FP.i2d (1 : Int32)))), .second, .val (.int (1 : Int32)), .val (.int (1 : Int32))] [(.int (cmpValue (FP.dcmp (FP.ddiv (FP.l2d p1) (FP.i2d p0)) (FP.ddiv (FP.l2d p2) (FP.i2d p0))) .l))])) _
          refine XS.ifNo X49.here hx rfl (hb hby at_256) rfl ((if0 _ _).trans (flt (own_cge (own_avF _ hd0).ne (own_avF _ hd0).ne (own_up hc52 (by have q := (lw_gt _ _).mp hc54; rw [Int64.lt_iff_toInt_lt] at q; omega)) .l)).1) ?_
          show Steps p.tables e below (T49.setTop (mkF m 259 #[.val (.int p0), .val (.long p1), .second, .val (.long p2), .second, .val (.int p3), .val (.int p4), .val (.int (p3 >>> ((10 : Int32) &&& 31))), .val (.double (FP.ddiv (FP.l2d p1) (FP.i2d p0))), .second, .val (.double (FP.ddiv (FP.l2d p2) (FP.i2d p0))), .second, .val (.double (FP.ddiv (FP.l2d (((p3 >>> ((10 : Int32) &&& 31)).toInt64) * (p0.toInt64))) (FP.i2d p0))), .second, .val (.double (FP.ddiv (FP.l2d (((2 : Int64) * ((p3 >>> ((10 : Int32) &&& 31)).toInt64)) + (1 : Int64))) (FP.i2d (2 : Int32)))), .second, .val (.double (FP.ddiv (FP.l2d p1) (FP.i2d (1 : Int32)))), .second, .val (.int (1 : Int32)), .val (.int (1 : Int32))] [])) _
          refine XS.goto X49.here hx rfl (pc0 := 259) (pc' := 270) rfl (hb hby at_259) (by decide) (by decide) ?_
          show Steps p.tables e below (T49.setTop (mkF m 270 #[.val (.int p0), .val (.long p1), .second, .val (.long p2), .second, .val (.int p3), .val (.int p4), .val (.int (p3 >>> ((10 : Int32) &&& 31))), .val (.double (FP.ddiv (FP.l2d p1) (FP.i2d p0))), .second, .val (.double (FP.ddiv (FP.l2d p2) (FP.i2d p0))), .second, .val (.double (FP.ddiv (FP.l2d (((p3 >>> ((10 : Int32) &&& 31)).toInt64) * (p0.toInt64))) (FP.i2d p0))), .second, .val (.double (FP.ddiv (FP.l2d (((2 : Int64) * ((p3 >>> ((10 : Int32) &&& 31)).toInt64)) + (1 : Int64))) (FP.i2d (2 : Int32)))), .second, .val (.double (FP.ddiv (FP.l2d p1) (FP.i2d (1 : Int32)))), .second, .val (.int (1 : Int32)), .val (.int (1 : Int32))] [])) _
          refine XS.iconst X49.here hx rfl (hb hby at_270) ?_
          show Steps p.tables e below (T49.setTop (mkF m 271 #[.val (.int p0), .val (.long p1), .second, .val (.long p2), .second, .val (.int p3), .val (.int p4), .val (.int (p3 >>> ((10 : Int32) &&& 31))), .val (.double (FP.ddiv (FP.l2d p1) (FP.i2d p0))), .second, .val (.double (FP.ddiv (FP.l2d p2) (FP.i2d p0))), .second, .val (.double (FP.ddiv (FP.l2d (((p3 >>> ((10 : Int32) &&& 31)).toInt64) * (p0.toInt64))) (FP.i2d p0))), .second, .val (.double (FP.ddiv (FP.l2d (((2 : Int64) * ((p3 >>> ((10 : Int32) &&& 31)).toInt64)) + (1 : Int64))) (FP.i2d (2 : Int32)))), .second, .val (.double (FP.ddiv (FP.l2d p1) (FP.i2d (1 : Int32)))), .second, .val (.int (1 : Int32)), .val (.int (1 : Int32))] [(.int (1 : Int32))])) _
          refine XS.goto X49.here hx rfl (pc0 := 271) (pc' := 275) rfl (hb hby at_271) (by decide) (by decide) ?_
          show Steps p.tables e below (T49.setTop (mkF m 275 #[.val (.int p0), .val (.long p1), .second, .val (.long p2), .second, .val (.int p3), .val (.int p4), .val (.int (p3 >>> ((10 : Int32) &&& 31))), .val (.double (FP.ddiv (FP.l2d p1) (FP.i2d p0))), .second, .val (.double (FP.ddiv (FP.l2d p2) (FP.i2d p0))), .second, .val (.double (FP.ddiv (FP.l2d (((p3 >>> ((10 : Int32) &&& 31)).toInt64) * (p0.toInt64))) (FP.i2d p0))), .second, .val (.double (FP.ddiv (FP.l2d (((2 : Int64) * ((p3 >>> ((10 : Int32) &&& 31)).toInt64)) + (1 : Int64))) (FP.i2d (2 : Int32)))), .second, .val (.double (FP.ddiv (FP.l2d p1) (FP.i2d (1 : Int32)))), .second, .val (.int (1 : Int32)), .val (.int (1 : Int32))] [(.int (1 : Int32))])) _
          refine XS.istore X49.here hx rfl (hb hby at_275) rfl (l' := #[.val (.int p0), .val (.long p1), .second, .val (.long p2), .second, .val (.int p3), .val (.int p4), .val (.int (p3 >>> ((10 : Int32) &&& 31))), .val (.double (FP.ddiv (FP.l2d p1) (FP.i2d p0))), .second, .val (.double (FP.ddiv (FP.l2d p2) (FP.i2d p0))), .second, .val (.double (FP.ddiv (FP.l2d (((p3 >>> ((10 : Int32) &&& 31)).toInt64) * (p0.toInt64))) (FP.i2d p0))), .second, .val (.double (FP.ddiv (FP.l2d (((2 : Int64) * ((p3 >>> ((10 : Int32) &&& 31)).toInt64)) + (1 : Int64))) (FP.i2d (2 : Int32)))), .second, .val (.double (FP.ddiv (FP.l2d p1) (FP.i2d (1 : Int32)))), .second, .val (.int (1 : Int32)), .val (.int (1 : Int32))]) rfl ?_
          show Steps p.tables e below (T49.setTop (mkF m 277 #[.val (.int p0), .val (.long p1), .second, .val (.long p2), .second, .val (.int p3), .val (.int p4), .val (.int (p3 >>> ((10 : Int32) &&& 31))), .val (.double (FP.ddiv (FP.l2d p1) (FP.i2d p0))), .second, .val (.double (FP.ddiv (FP.l2d p2) (FP.i2d p0))), .second, .val (.double (FP.ddiv (FP.l2d (((p3 >>> ((10 : Int32) &&& 31)).toInt64) * (p0.toInt64))) (FP.i2d p0))), .second, .val (.double (FP.ddiv (FP.l2d (((2 : Int64) * ((p3 >>> ((10 : Int32) &&& 31)).toInt64)) + (1 : Int64))) (FP.i2d (2 : Int32)))), .second, .val (.double (FP.ddiv (FP.l2d p1) (FP.i2d (1 : Int32)))), .second, .val (.int (1 : Int32)), .val (.int (1 : Int32))] [])) _
          refine XS.iload X49.here hx rfl (hb hby at_277) rfl ?_
          show Steps p.tables e below (T49.setTop (mkF m 279 #[.val (.int p0), .val (.long p1), .second, .val (.long p2), .second, .val (.int p3), .val (.int p4), .val (.int (p3 >>> ((10 : Int32) &&& 31))), .val (.double (FP.ddiv (FP.l2d p1) (FP.i2d p0))), .second, .val (.double (FP.ddiv (FP.l2d p2) (FP.i2d p0))), .second, .val (.double (FP.ddiv (FP.l2d (((p3 >>> ((10 : Int32) &&& 31)).toInt64) * (p0.toInt64))) (FP.i2d p0))), .second, .val (.double (FP.ddiv (FP.l2d (((2 : Int64) * ((p3 >>> ((10 : Int32) &&& 31)).toInt64)) + (1 : Int64))) (FP.i2d (2 : Int32)))), .second, .val (.double (FP.ddiv (FP.l2d p1) (FP.i2d (1 : Int32)))), .second, .val (.int (1 : Int32)), .val (.int (1 : Int32))] [(.int (1 : Int32))])) _
          exact retN X49 hx (t := .boolean) Bd.returns (by simp) (hb hby at_279) hr
        · show Q0 Z p0 p1 p2 p3 p4 h0 n0 _ T49.heap _
          rw [eh49]
          exact ⟨N49, rfl⟩
      · skip
        obtain ⟨fs, hr, hrun, hended, hW, hsame⟩ := X49.leave (v := (some (.int (1 : Int32)))) (fun h => by rw [Bd.returns] at h; cases h)
        refine ⟨_, _, pre53 _ ?_, hrun, hended, _, _, rfl, ?_, ⟨_, rfl⟩, hW, hsame.mono (by decide) (by decide)⟩
        · show Steps p.tables e below (T49.setTop (mkF m 199 #[.val (.int p0), .val (.long p1), .second, .val (.long p2), .second, .val (.int p3), .val (.int p4), .val (.int (p3 >>> ((10 : Int32) &&& 31))), .val (.double (FP.ddiv (FP.l2d p1) (FP.i2d p0))), .second, .val (.double (FP.ddiv (FP.l2d p2) (FP.i2d p0))), .second, .val (.double (FP.ddiv (FP.l2d (((p3 >>> ((10 : Int32) &&& 31)).toInt64) * (p0.toInt64))) (FP.i2d p0))), .second, .val (.double (FP.ddiv (FP.l2d (((2 : Int64) * ((p3 >>> ((10 : Int32) &&& 31)).toInt64)) + (1 : Int64))) (FP.i2d (2 : Int32)))), .second, .val (.double (FP.ddiv (FP.l2d p1) (FP.i2d (1 : Int32)))), .second, .val (.int (1 : Int32)), .val (.int (1 : Int32))] [(.int (lcmpW p1 p2))])) _
          refine XS.ifNo X49.here hx rfl (hb hby at_199) rfl ((if0 _ _).trans (flt hc54).2.2.1) ?_
          show Steps p.tables e below (T49.setTop (mkF m 202 #[.val (.int p0), .val (.long p1), .second, .val (.long p2), .second, .val (.int p3), .val (.int p4), .val (.int (p3 >>> ((10 : Int32) &&& 31))), .val (.double (FP.ddiv (FP.l2d p1) (FP.i2d p0))), .second, .val (.double (FP.ddiv (FP.l2d p2) (FP.i2d p0))), .second, .val (.double (FP.ddiv (FP.l2d (((p3 >>> ((10 : Int32) &&& 31)).toInt64) * (p0.toInt64))) (FP.i2d p0))), .second, .val (.double (FP.ddiv (FP.l2d (((2 : Int64) * ((p3 >>> ((10 : Int32) &&& 31)).toInt64)) + (1 : Int64))) (FP.i2d (2 : Int32)))), .second, .val (.double (FP.ddiv (FP.l2d p1) (FP.i2d (1 : Int32)))), .second, .val (.int (1 : Int32)), .val (.int (1 : Int32))] [])) _
          refine XS.iload X49.here hx rfl (hb hby at_202) rfl ?_
          show Steps p.tables e below (T49.setTop (mkF m 204 #[.val (.int p0), .val (.long p1), .second, .val (.long p2), .second, .val (.int p3), .val (.int p4), .val (.int (p3 >>> ((10 : Int32) &&& 31))), .val (.double (FP.ddiv (FP.l2d p1) (FP.i2d p0))), .second, .val (.double (FP.ddiv (FP.l2d p2) (FP.i2d p0))), .second, .val (.double (FP.ddiv (FP.l2d (((p3 >>> ((10 : Int32) &&& 31)).toInt64) * (p0.toInt64))) (FP.i2d p0))), .second, .val (.double (FP.ddiv (FP.l2d (((2 : Int64) * ((p3 >>> ((10 : Int32) &&& 31)).toInt64)) + (1 : Int64))) (FP.i2d (2 : Int32)))), .second, .val (.double (FP.ddiv (FP.l2d p1) (FP.i2d (1 : Int32)))), .second, .val (.int (1 : Int32)), .val (.int (1 : Int32))] [(.int (1 : Int32))])) _
          refine XS.ifNo X49.here hx rfl (hb hby at_204) rfl (by decide) ?_
          show Steps p.tables e below (T49.setTop (mkF m 207 #[.val (.int p0), .val (.long p1), .second, .val (.long p2), .second, .val (.int p3), .val (.int p4), .val (.int (p3 >>> ((10 : Int32) &&& 31))), .val (.double (FP.ddiv (FP.l2d p1) (FP.i2d p0))), .second, .val (.double (FP.ddiv (FP.l2d p2) (FP.i2d p0))), .second, .val (.double (FP.ddiv (FP.l2d (((p3 >>> ((10 : Int32) &&& 31)).toInt64) * (p0.toInt64))) (FP.i2d p0))), .second, .val (.double (FP.ddiv (FP.l2d (((2 : Int64) * ((p3 >>> ((10 : Int32) &&& 31)).toInt64)) + (1 : Int64))) (FP.i2d (2 : Int32)))), .second, .val (.double (FP.ddiv (FP.l2d p1) (FP.i2d (1 : Int32)))), .second, .val (.int (1 : Int32)), .val (.int (1 : Int32))] [])) _
          refine XS.iload X49.here hx rfl (hb hby at_207) rfl ?_
          show Steps p.tables e below (T49.setTop (mkF m 209 #[.val (.int p0), .val (.long p1), .second, .val (.long p2), .second, .val (.int p3), .val (.int p4), .val (.int (p3 >>> ((10 : Int32) &&& 31))), .val (.double (FP.ddiv (FP.l2d p1) (FP.i2d p0))), .second, .val (.double (FP.ddiv (FP.l2d p2) (FP.i2d p0))), .second, .val (.double (FP.ddiv (FP.l2d (((p3 >>> ((10 : Int32) &&& 31)).toInt64) * (p0.toInt64))) (FP.i2d p0))), .second, .val (.double (FP.ddiv (FP.l2d (((2 : Int64) * ((p3 >>> ((10 : Int32) &&& 31)).toInt64)) + (1 : Int64))) (FP.i2d (2 : Int32)))), .second, .val (.double (FP.ddiv (FP.l2d p1) (FP.i2d (1 : Int32)))), .second, .val (.int (1 : Int32)), .val (.int (1 : Int32))] [(.int (1 : Int32))])) _
          refine XS.ifNo X49.here hx rfl (hb hby at_209) rfl (by decide) ?_
          show Steps p.tables e below (T49.setTop (mkF m 212 #[.val (.int p0), .val (.long p1), .second, .val (.long p2), .second, .val (.int p3), .val (.int p4), .val (.int (p3 >>> ((10 : Int32) &&& 31))), .val (.double (FP.ddiv (FP.l2d p1) (FP.i2d p0))), .second, .val (.double (FP.ddiv (FP.l2d p2) (FP.i2d p0))), .second, .val (.double (FP.ddiv (FP.l2d (((p3 >>> ((10 : Int32) &&& 31)).toInt64) * (p0.toInt64))) (FP.i2d p0))), .second, .val (.double (FP.ddiv (FP.l2d (((2 : Int64) * ((p3 >>> ((10 : Int32) &&& 31)).toInt64)) + (1 : Int64))) (FP.i2d (2 : Int32)))), .second, .val (.double (FP.ddiv (FP.l2d p1) (FP.i2d (1 : Int32)))), .second, .val (.int (1 : Int32)), .val (.int (1 : Int32))] [])) _
          refine XS.dload X49.here hx rfl (hb hby at_212) rfl ?_
          show Steps p.tables e below (T49.setTop (mkF m 214 #[.val (.int p0), .val (.long p1), .second, .val (.long p2), .second, .val (.int p3), .val (.int p4), .val (.int (p3 >>> ((10 : Int32) &&& 31))), .val (.double (FP.ddiv (FP.l2d p1) (FP.i2d p0))), .second, .val (.double (FP.ddiv (FP.l2d p2) (FP.i2d p0))), .second, .val (.double (FP.ddiv (FP.l2d (((p3 >>> ((10 : Int32) &&& 31)).toInt64) * (p0.toInt64))) (FP.i2d p0))), .second, .val (.double (FP.ddiv (FP.l2d (((2 : Int64) * ((p3 >>> ((10 : Int32) &&& 31)).toInt64)) + (1 : Int64))) (FP.i2d (2 : Int32)))), .second, .val (.double (FP.ddiv (FP.l2d p1) (FP.i2d (1 : Int32)))), .second, .val (.int (1 : Int32)), .val (.int (1 : Int32))] [(.double (FP.ddiv (FP.l2d p1) (FP.i2d p0)))])) _
          refine XS.dload X49.here hx rfl (hb hby at_214) rfl ?_
          show Steps p.tables e below (T49.setTop (mkF m 216 #[.val (.int p0), .val (.long p1), .second, .val (.long p2), .second, .val (.int p3), .val (.int p4), .val (.int (p3 >>> ((10 : Int32) &&& 31))), .val (.double (FP.ddiv (FP.l2d p1) (FP.i2d p0))), .second, .val (.double (FP.ddiv (FP.l2d p2) (FP.i2d p0))), .second, .val (.double (FP.ddiv (FP.l2d (((p3 >>> ((10 : Int32) &&& 31)).toInt64) * (p0.toInt64))) (FP.i2d p0))), .second, .val (.double (FP.ddiv (FP.l2d (((2 : Int64) * ((p3 >>> ((10 : Int32) &&& 31)).toInt64)) + (1 : Int64))) (FP.i2d (2 : Int32)))), .second, .val (.double (FP.ddiv (FP.l2d p1) (FP.i2d (1 : Int32)))), .second, .val (.int (1 : Int32)), .val (.int (1 : Int32))] [(.double (FP.ddiv (FP.l2d p2) (FP.i2d p0))), (.double (FP.ddiv (FP.l2d p1) (FP.i2d p0)))])) _
          refine XS.dcmpS X49.here hx rfl (hb hby at_216) rfl (v := (cmpValue (FP.dcmp (FP.ddiv (FP.l2d p1) (FP.i2d p0)) (FP.ddiv (FP.l2d p2) (FP.i2d p0))) .g)) rfl ?_
          show Steps p.tables e below (T49.setTop (mkF m 217 #[.val (.int p0), .val (.long p1), .second, .val (.long p2), .second, .val (.int p3), .val (.int p4), .val (.int (p3 >>> ((10 : Int32) &&& 31))), .val (.double (FP.ddiv (FP.l2d p1) (FP.i2d p0))), .second, .val (.double (FP.ddiv (FP.l2d p2) (FP.i2d p0))), .second, .val (.double (FP.ddiv (FP.l2d (((p3 >>> ((10 : Int32) &&& 31)).toInt64) * (p0.toInt64))) (FP.i2d p0))), .second, .val (.double (FP.ddiv (FP.l2d (((2 : Int64) * ((p3 >>> ((10 : Int32) &&& 31)).toInt64)) + (1 : Int64))) (FP.i2d (2 : Int32)))), .second, .val (.double (FP.ddiv (FP.l2d p1) (FP.i2d (1 : Int32)))), .second, .val (.int (1 : Int32)), .val (.int (1 : Int32))] [(.int (cmpValue (FP.dcmp (FP.ddiv (FP.l2d p1) (FP.i2d p0)) (FP.ddiv (FP.l2d p2) (FP.i2d p0))) .g))])) _
          refine XS.ifNo X49.here hx rfl (hb hby at_217) rfl ((if0 _ _).trans (flt (own_cle (own_avF _ hd0).ne (own_avF _ hd0).ne (own_up hc52 (by have q := mt (lw_gt _ _).mpr hc54; rw [Int64.lt_iff_toInt_lt] at q; omega)) .g)).2.2.1) ?_
          show Steps p.tables e below (T49.setTop (mkF m 220 #[.val (.int p0), .val (.long p1), .second, .val (.long p2), .second, .val (.int p3), .val (.int p4), .val (.int (p3 >>> ((10 : Int32) &&& 31))), .val (.double (FP.ddiv (FP.l2d p1) (FP.i2d p0))), .second, .val (.double (FP.ddiv (FP.l2d p2) (FP.i2d p0))), .second, .val (.double (FP.ddiv (FP.l2d (((p3 >>> ((10 : Int32) &&& 31)).toInt64) * (p0.toInt64))) (FP.i2d p0))), .second, .val (.double (FP.ddiv (FP.l2d (((2 : Int64) * ((p3 >>> ((10 : Int32) &&& 31)).toInt64)) + (1 : Int64))) (FP.i2d (2 : Int32)))), .second, .val (.double (FP.ddiv (FP.l2d p1) (FP.i2d (1 : Int32)))), .second, .val (.int (1 : Int32)), .val (.int (1 : Int32))] [])) _
          refine XS.goto X49.here hx rfl (pc0 := 220) (pc' := 231) rfl (hb hby at_220) (by decide) (by decide) ?_
          show Steps p.tables e below (T49.setTop (mkF m 231 #[.val (.int p0), .val (.long p1), .second, .val (.long p2), .second, .val (.int p3), .val (.int p4), .val (.int (p3 >>> ((10 : Int32) &&& 31))), .val (.double (FP.ddiv (FP.l2d p1) (FP.i2d p0))), .second, .val (.double (FP.ddiv (FP.l2d p2) (FP.i2d p0))), .second, .val (.double (FP.ddiv (FP.l2d (((p3 >>> ((10 : Int32) &&& 31)).toInt64) * (p0.toInt64))) (FP.i2d p0))), .second, .val (.double (FP.ddiv (FP.l2d (((2 : Int64) * ((p3 >>> ((10 : Int32) &&& 31)).toInt64)) + (1 : Int64))) (FP.i2d (2 : Int32)))), .second, .val (.double (FP.ddiv (FP.l2d p1) (FP.i2d (1 : Int32)))), .second, .val (.int (1 : Int32)), .val (.int (1 : Int32))] [])) _
          refine XS.iconst X49.here hx rfl (hb hby at_231) ?_
          show Steps p.tables e below (T49.setTop (mkF m 232 #[.val (.int p0), .val (.long p1), .second, .val (.long p2), .second, .val (.int p3), .val (.int p4), .val (.int (p3 >>> ((10 : Int32) &&& 31))), .val (.double (FP.ddiv (FP.l2d p1) (FP.i2d p0))), .second, .val (.double (FP.ddiv (FP.l2d p2) (FP.i2d p0))), .second, .val (.double (FP.ddiv (FP.l2d (((p3 >>> ((10 : Int32) &&& 31)).toInt64) * (p0.toInt64))) (FP.i2d p0))), .second, .val (.double (FP.ddiv (FP.l2d (((2 : Int64) * ((p3 >>> ((10 : Int32) &&& 31)).toInt64)) + (1 : Int64))) (FP.i2d (2 : Int32)))), .second, .val (.double (FP.ddiv (FP.l2d p1) (FP.i2d (1 : Int32)))), .second, .val (.int (1 : Int32)), .val (.int (1 : Int32))] [(.int (1 : Int32))])) _
          refine XS.goto X49.here hx rfl (pc0 := 232) (pc' := 236) rfl (hb hby at_232) (by decide) (by decide) ?_
          show Steps p.tables e below (T49.setTop (mkF m 236 #[.val (.int p0), .val (.long p1), .second, .val (.long p2), .second, .val (.int p3), .val (.int p4), .val (.int (p3 >>> ((10 : Int32) &&& 31))), .val (.double (FP.ddiv (FP.l2d p1) (FP.i2d p0))), .second, .val (.double (FP.ddiv (FP.l2d p2) (FP.i2d p0))), .second, .val (.double (FP.ddiv (FP.l2d (((p3 >>> ((10 : Int32) &&& 31)).toInt64) * (p0.toInt64))) (FP.i2d p0))), .second, .val (.double (FP.ddiv (FP.l2d (((2 : Int64) * ((p3 >>> ((10 : Int32) &&& 31)).toInt64)) + (1 : Int64))) (FP.i2d (2 : Int32)))), .second, .val (.double (FP.ddiv (FP.l2d p1) (FP.i2d (1 : Int32)))), .second, .val (.int (1 : Int32)), .val (.int (1 : Int32))] [(.int (1 : Int32))])) _
          refine XS.istore X49.here hx rfl (hb hby at_236) rfl (l' := #[.val (.int p0), .val (.long p1), .second, .val (.long p2), .second, .val (.int p3), .val (.int p4), .val (.int (p3 >>> ((10 : Int32) &&& 31))), .val (.double (FP.ddiv (FP.l2d p1) (FP.i2d p0))), .second, .val (.double (FP.ddiv (FP.l2d p2) (FP.i2d p0))), .second, .val (.double (FP.ddiv (FP.l2d (((p3 >>> ((10 : Int32) &&& 31)).toInt64) * (p0.toInt64))) (FP.i2d p0))), .second, .val (.double (FP.ddiv (FP.l2d (((2 : Int64) * ((p3 >>> ((10 : Int32) &&& 31)).toInt64)) + (1 : Int64))) (FP.i2d (2 : Int32)))), .second, .val (.double (FP.ddiv (FP.l2d p1) (FP.i2d (1 : Int32)))), .second, .val (.int (1 : Int32)), .val (.int (1 : Int32))]) rfl ?_
          show Steps p.tables e below (T49.setTop (mkF m 238 #[.val (.int p0), .val (.long p1), .second, .val (.long p2), .second, .val (.int p3), .val (.int p4), .val (.int (p3 >>> ((10 : Int32) &&& 31))), .val (.double (FP.ddiv (FP.l2d p1) (FP.i2d p0))), .second, .val (.double (FP.ddiv (FP.l2d p2) (FP.i2d p0))), .second, .val (.double (FP.ddiv (FP.l2d (((p3 >>> ((10 : Int32) &&& 31)).toInt64) * (p0.toInt64))) (FP.i2d p0))), .second, .val (.double (FP.ddiv (FP.l2d (((2 : Int64) * ((p3 >>> ((10 : Int32) &&& 31)).toInt64)) + (1 : Int64))) (FP.i2d (2 : Int32)))), .second, .val (.double (FP.ddiv (FP.l2d p1) (FP.i2d (1 : Int32)))), .second, .val (.int (1 : Int32)), .val (.int (1 : Int32))] [])) _
          refine XS.goto X49.here hx rfl (pc0 := 238) (pc' := 277) rfl (hb hby at_238) (by decide) (by decide) ?_
          show Steps p.tables e below (T49.setTop (mkF m 277 #[.val (.int p0), .val (.long p1), .second, .val (.long p2), .second, .val (.int p3), .val (.int p4), .val (.int (p3 >>> ((10 : Int32) &&& 31))), .val (.double (FP.ddiv (FP.l2d p1) (FP.i2d p0))), .second, .val (.double (FP.ddiv (FP.l2d p2) (FP.i2d p0))), .second, .val (.double (FP.ddiv (FP.l2d (((p3 >>> ((10 : Int32) &&& 31)).toInt64) * (p0.toInt64))) (FP.i2d p0))), .second, .val (.double (FP.ddiv (FP.l2d (((2 : Int64) * ((p3 >>> ((10 : Int32) &&& 31)).toInt64)) + (1 : Int64))) (FP.i2d (2 : Int32)))), .second, .val (.double (FP.ddiv (FP.l2d p1) (FP.i2d (1 : Int32)))), .second, .val (.int (1 : Int32)), .val (.int (1 : Int32))] [])) _
          refine XS.iload X49.here hx rfl (hb hby at_277) rfl ?_
          show Steps p.tables e below (T49.setTop (mkF m 279 #[.val (.int p0), .val (.long p1), .second, .val (.long p2), .second, .val (.int p3), .val (.int p4), .val (.int (p3 >>> ((10 : Int32) &&& 31))), .val (.double (FP.ddiv (FP.l2d p1) (FP.i2d p0))), .second, .val (.double (FP.ddiv (FP.l2d p2) (FP.i2d p0))), .second, .val (.double (FP.ddiv (FP.l2d (((p3 >>> ((10 : Int32) &&& 31)).toInt64) * (p0.toInt64))) (FP.i2d p0))), .second, .val (.double (FP.ddiv (FP.l2d (((2 : Int64) * ((p3 >>> ((10 : Int32) &&& 31)).toInt64)) + (1 : Int64))) (FP.i2d (2 : Int32)))), .second, .val (.double (FP.ddiv (FP.l2d p1) (FP.i2d (1 : Int32)))), .second, .val (.int (1 : Int32)), .val (.int (1 : Int32))] [(.int (1 : Int32))])) _
          exact retN X49 hx (t := .boolean) Bd.returns (by simp) (hb hby at_279) hr
        · show Q0 Z p0 p1 p2 p3 p4 h0 n0 _ T49.heap _
          rw [eh49]
          exact ⟨N49, rfl⟩
    · skip
      have pre55 : ∀ t, Steps p.tables e below (T49.setTop (mkF m 199 #[.val (.int p0), .val (.long p1), .second, .val (.long p2), .second, .val (.int p3), .val (.int p4), .val (.int (p3 >>> ((10 : Int32) &&& 31))), .val (.double (FP.ddiv (FP.l2d p1) (FP.i2d p0))), .second, .val (.double (FP.ddiv (FP.l2d p2) (FP.i2d p0))), .second, .val (.double (FP.ddiv (FP.l2d (((p3 >>> ((10 : Int32) &&& 31)).toInt64) * (p0.toInt64))) (FP.i2d p0))), .second, .val (.double (FP.ddiv (FP.l2d (((2 : Int64) * ((p3 >>> ((10 : Int32) &&& 31)).toInt64)) + (1 : Int64))) (FP.i2d (2 : Int32)))), .second, .val (.double (FP.ddiv (FP.l2d p1) (FP.i2d (1 : Int32)))), .second, .val (.int (1 : Int32)), .val (.int (0 : Int32))] [(.int (lcmpW p1 p2))])) t → Steps p.tables e below (s₁.setTop (entryFrame m #[(.int p0), (.long p1), (.long p2), (.int p3), (.int p4)] maxLocals)) t := fun t kt => pre51 t (by
        show Steps p.tables e below (T49.setTop (mkF m 186 #[.val (.int p0), .val (.long p1), .second, .val (.long p2), .second, .val (.int p3), .val (.int p4), .val (.int (p3 >>> ((10 : Int32) &&& 31))), .val (.double (FP.ddiv (FP.l2d p1) (FP.i2d p0))), .second, .val (.double (FP.ddiv (FP.l2d p2) (FP.i2d p0))), .second, .val (.double (FP.ddiv (FP.l2d (((p3 >>> ((10 : Int32) &&& 31)).toInt64) * (p0.toInt64))) (FP.i2d p0))), .second, .val (.double (FP.ddiv (FP.l2d (((2 : Int64) * ((p3 >>> ((10 : Int32) &&& 31)).toInt64)) + (1 : Int64))) (FP.i2d (2 : Int32)))), .second, .val (.double (FP.ddiv (FP.l2d p1) (FP.i2d (1 : Int32)))), .second, .val (.int (1 : Int32)), .unset] [(.int p0)])) _
        refine XS.ifYes X49.here hx rfl (pc0 := 186) (pc' := 193) rfl (hb hby at_186) rfl ((if0 _ _).trans (flt hc52).2.2.2) (by decide) (by decide) ?_
        show Steps p.tables e below (T49.setTop (mkF m 193 #[.val (.int p0), .val (.long p1), .second, .val (.long p2), .second, .val (.int p3), .val (.int p4), .val (.int (p3 >>> ((10 : Int32) &&& 31))), .val (.double (FP.ddiv (FP.l2d p1) (FP.i2d p0))), .second, .val (.double (FP.ddiv (FP.l2d p2) (FP.i2d p0))), .second, .val (.double (FP.ddiv (FP.l2d (((p3 >>> ((10 : Int32) &&& 31)).toInt64) * (p0.toInt64))) (FP.i2d p0))), .second, .val (.double (FP.ddiv (FP.l2d (((2 : Int64) * ((p3 >>> ((10 : Int32) &&& 31)).toInt64)) + (1 : Int64))) (FP.i2d (2 : Int32)))), .second, .val (.double (FP.ddiv (FP.l2d p1) (FP.i2d (1 : Int32)))), .second, .val (.int (1 : Int32)), .unset] [])) _
        refine XS.iconst X49.here hx rfl (hb hby at_193) ?_
        show Steps p.tables e below (T49.setTop (mkF m 194 #[.val (.int p0), .val (.long p1), .second, .val (.long p2), .second, .val (.int p3), .val (.int p4), .val (.int (p3 >>> ((10 : Int32) &&& 31))), .val (.double (FP.ddiv (FP.l2d p1) (FP.i2d p0))), .second, .val (.double (FP.ddiv (FP.l2d p2) (FP.i2d p0))), .second, .val (.double (FP.ddiv (FP.l2d (((p3 >>> ((10 : Int32) &&& 31)).toInt64) * (p0.toInt64))) (FP.i2d p0))), .second, .val (.double (FP.ddiv (FP.l2d (((2 : Int64) * ((p3 >>> ((10 : Int32) &&& 31)).toInt64)) + (1 : Int64))) (FP.i2d (2 : Int32)))), .second, .val (.double (FP.ddiv (FP.l2d p1) (FP.i2d (1 : Int32)))), .second, .val (.int (1 : Int32)), .unset] [(.int (0 : Int32))])) _
        refine XS.istore X49.here hx rfl (hb hby at_194) rfl (l' := #[.val (.int p0), .val (.long p1), .second, .val (.long p2), .second, .val (.int p3), .val (.int p4), .val (.int (p3 >>> ((10 : Int32) &&& 31))), .val (.double (FP.ddiv (FP.l2d p1) (FP.i2d p0))), .second, .val (.double (FP.ddiv (FP.l2d p2) (FP.i2d p0))), .second, .val (.double (FP.ddiv (FP.l2d (((p3 >>> ((10 : Int32) &&& 31)).toInt64) * (p0.toInt64))) (FP.i2d p0))), .second, .val (.double (FP.ddiv (FP.l2d (((2 : Int64) * ((p3 >>> ((10 : Int32) &&& 31)).toInt64)) + (1 : Int64))) (FP.i2d (2 : Int32)))), .second, .val (.double (FP.ddiv (FP.l2d p1) (FP.i2d (1 : Int32)))), .second, .val (.int (1 : Int32)), .val (.int (0 : Int32))]) rfl ?_
        show Steps p.tables e below (T49.setTop (mkF m 196 #[.val (.int p0), .val (.long p1), .second, .val (.long p2), .second, .val (.int p3), .val (.int p4), .val (.int (p3 >>> ((10 : Int32) &&& 31))), .val (.double (FP.ddiv (FP.l2d p1) (FP.i2d p0))), .second, .val (.double (FP.ddiv (FP.l2d p2) (FP.i2d p0))), .second, .val (.double (FP.ddiv (FP.l2d (((p3 >>> ((10 : Int32) &&& 31)).toInt64) * (p0.toInt64))) (FP.i2d p0))), .second, .val (.double (FP.ddiv (FP.l2d (((2 : Int64) * ((p3 >>> ((10 : Int32) &&& 31)).toInt64)) + (1 : Int64))) (FP.i2d (2 : Int32)))), .second, .val (.double (FP.ddiv (FP.l2d p1) (FP.i2d (1 : Int32)))), .second, .val (.int (1 : Int32)), .val (.int (0 : Int32))] [])) _
        refine XS.lloadN X49.here hx rfl (hb hby at_196) rfl ?_
        show Steps p.tables e below (T49.setTop (mkF m 197 #[.val (.int p0), .val (.long p1), .second, .val (.long p2), .second, .val (.int p3), .val (.int p4), .val (.int (p3 >>> ((10 : Int32) &&& 31))), .val (.double (FP.ddiv (FP.l2d p1) (FP.i2d p0))), .second, .val (.double (FP.ddiv (FP.l2d p2) (FP.i2d p0))), .second, .val (.double (FP.ddiv (FP.l2d (((p3 >>> ((10 : Int32) &&& 31)).toInt64) * (p0.toInt64))) (FP.i2d p0))), .second, .val (.double (FP.ddiv (FP.l2d (((2 : Int64) * ((p3 >>> ((10 : Int32) &&& 31)).toInt64)) + (1 : Int64))) (FP.i2d (2 : Int32)))), .second, .val (.double (FP.ddiv (FP.l2d p1) (FP.i2d (1 : Int32)))), .second, .val (.int (1 : Int32)), .val (.int (0 : Int32))] [(.long p1)])) _
        refine XS.lloadN X49.here hx rfl (hb hby at_197) rfl ?_
        show Steps p.tables e below (T49.setTop (mkF m 198 #[.val (.int p0), .val (.long p1), .second, .val (.long p2), .second, .val (.int p3), .val (.int p4), .val (.int (p3 >>> ((10 : Int32) &&& 31))), .val (.double (FP.ddiv (FP.l2d p1) (FP.i2d p0))), .second, .val (.double (FP.ddiv (FP.l2d p2) (FP.i2d p0))), .second, .val (.double (FP.ddiv (FP.l2d (((p3 >>> ((10 : Int32) &&& 31)).toInt64) * (p0.toInt64))) (FP.i2d p0))), .second, .val (.double (FP.ddiv (FP.l2d (((2 : Int64) * ((p3 >>> ((10 : Int32) &&& 31)).toInt64)) + (1 : Int64))) (FP.i2d (2 : Int32)))), .second, .val (.double (FP.ddiv (FP.l2d p1) (FP.i2d (1 : Int32)))), .second, .val (.int (1 : Int32)), .val (.int (0 : Int32))] [(.long p2), (.long p1)])) _
        refine XS.lcmp X49.here hx rfl (hb hby at_198) rfl ?_
        exact kt)
      by_cases hc56 : (0 : Int32) < (lcmpW p1 p2)
      · skip
        obtain ⟨fs, hr, hrun, hended, hW, hsame⟩ := X49.leave (v := (some (.int (1 : Int32)))) (fun h => by rw [Bd.returns] at h; cases h)
        refine ⟨_, _, pre55 _ ?_, hrun, hended, _, _, rfl, ?_, ⟨_, rfl⟩, hW, hsame.mono (by decide) (by decide)⟩
        · show Steps p.tables e below (T49.setTop (mkF m 199 #[.val (.int p0), .val (.long p1), .second, .val (.long p2), .second, .val (.int p3), .val (.int p4), .val (.int (p3 >>> ((10 : Int32) &&& 31))), .val (.double (FP.ddiv (FP.l2d p1) (FP.i2d p0))), .second, .val (.double (FP.ddiv (FP.l2d p2) (FP.i2d p0))), .second, .val (.double (FP.ddiv (FP.l2d (((p3 >>> ((10 : Int32) &&& 31)).toInt64) * (p0.toInt64))) (FP.i2d p0))), .second, .val (.double (FP.ddiv (FP.l2d (((2 : Int64) * ((p3 >>> ((10 : Int32) &&& 31)).toInt64)) + (1 : Int64))) (FP.i2d (2 : Int32)))), .second, .val (.double (FP.ddiv (FP.l2d p1) (FP.i2d (1 : Int32)))), .second, .val (.int (1 : Int32)), .val (.int (0 : Int32))] [(.int (lcmpW p1 p2))])) _
          refine XS.ifYes X49.here hx rfl (pc0 := 199) (pc' := 241) rfl (hb hby at_199) rfl ((if0 _ _).trans (tlt hc56).2.2.1) (by decide) (by decide) ?_
          show Steps p.tables e below (T49.setTop (mkF m 241 #[.val (.int p0), .val (.long p1), .second, .val (.long p2), .second, .val (.int p3), .val (.int p4), .val (.int (p3 >>> ((10 : Int32) &&& 31))), .val (.double (FP.ddiv (FP.l2d p1) (FP.i2d p0))), .second, .val (.double (FP.ddiv (FP.l2d p2) (FP.i2d p0))), .second, .val (.double (FP.ddiv (FP.l2d (((p3 >>> ((10 : Int32) &&& 31)).toInt64) * (p0.toInt64))) (FP.i2d p0))), .second, .val (.double (FP.ddiv (FP.l2d (((2 : Int64) * ((p3 >>> ((10 : Int32) &&& 31)).toInt64)) + (1 : Int64))) (FP.i2d (2 : Int32)))), .second, .val (.double (FP.ddiv (FP.l2d p1) (FP.i2d (1 : Int32)))), .second, .val (.int (1 : Int32)), .val (.int (0 : Int32))] [])) _
          refine XS.iload X49.here hx rfl (hb hby at_241) rfl ?_
          show Steps p.tables e below (T49.setTop (mkF m 243 #[.val (.int p0), .val (.long p1), .second, .val (.long p2), .second, .val (.int p3), .val (.int p4), .val (.int (p3 >>> ((10 : Int32) &&& 31))), .val (.double (FP.ddiv (FP.l2d p1) (FP.i2d p0))), .second, .val (.double (FP.ddiv (FP.l2d p2) (FP.i2d p0))), .second, .val (.double (FP.ddiv (FP.l2d (((p3 >>> ((10 : Int32) &&& 31)).toInt64) * (p0.toInt64))) (FP.i2d p0))), .second, .val (.double (FP.ddiv (FP.l2d (((2 : Int64) * ((p3 >>> ((10 : Int32) &&& 31)).toInt64)) + (1 : Int64))) (FP.i2d (2 : Int32)))), .second, .val (.double (FP.ddiv (FP.l2d p1) (FP.i2d (1 : Int32)))), .second, .val (.int (1 : Int32)), .val (.int (0 : Int32))] [(.int (1 : Int32))])) _
          refine XS.ifNo X49.here hx rfl (hb hby at_243) rfl (by decide) ?_
          show Steps p.tables e below (T49.setTop (mkF m 246 #[.val (.int p0), .val (.long p1), .second, .val (.long p2), .second, .val (.int p3), .val (.int p4), .val (.int (p3 >>> ((10 : Int32) &&& 31))), .val (.double (FP.ddiv (FP.l2d p1) (FP.i2d p0))), .second, .val (.double (FP.ddiv (FP.l2d p2) (FP.i2d p0))), .second, .val (.double (FP.ddiv (FP.l2d (((p3 >>> ((10 : Int32) &&& 31)).toInt64) * (p0.toInt64))) (FP.i2d p0))), .second, .val (.double (FP.ddiv (FP.l2d (((2 : Int64) * ((p3 >>> ((10 : Int32) &&& 31)).toInt64)) + (1 : Int64))) (FP.i2d (2 : Int32)))), .second, .val (.double (FP.ddiv (FP.l2d p1) (FP.i2d (1 : Int32)))), .second, .val (.int (1 : Int32)), .val (.int (0 : Int32))] [])) _
          refine XS.iload X49.here hx rfl (hb hby at_246) rfl ?_
          show Steps p.tables e below (T49.setTop (mkF m 248 #[.val (.int p0), .val (.long p1), .second, .val (.long p2), .second, .val (.int p3), .val (.int p4), .val (.int (p3 >>> ((10 : Int32) &&& 31))), .val (.double (FP.ddiv (FP.l2d p1) (FP.i2d p0))), .second, .val (.double (FP.ddiv (FP.l2d p2) (FP.i2d p0))), .second, .val (.double (FP.ddiv (FP.l2d (((p3 >>> ((10 : Int32) &&& 31)).toInt64) * (p0.toInt64))) (FP.i2d p0))), .second, .val (.double (FP.ddiv (FP.l2d (((2 : Int64) * ((p3 >>> ((10 : Int32) &&& 31)).toInt64)) + (1 : Int64))) (FP.i2d (2 : Int32)))), .second, .val (.double (FP.ddiv (FP.l2d p1) (FP.i2d (1 : Int32)))), .second, .val (.int (1 : Int32)), .val (.int (0 : Int32))] [(.int (0 : Int32))])) _
          refine XS.ifYes X49.here hx rfl (pc0 := 248) (pc' := 262) rfl (hb hby at_248) rfl (by decide) (by decide) (by decide) ?_
          show Steps p.tables e below (T49.setTop (mkF m 262 #[.val (.int p0), .val (.long p1), .second, .val (.long p2), .second, .val (.int p3), .val (.int p4), .val (.int (p3 >>> ((10 : Int32) &&& 31))), .val (.double (FP.ddiv (FP.l2d p1) (FP.i2d p0))), .second, .val (.double (FP.ddiv (FP.l2d p2) (FP.i2d p0))), .second, .val (.double (FP.ddiv (FP.l2d (((p3 >>> ((10 : Int32) &&& 31)).toInt64) * (p0.toInt64))) (FP.i2d p0))), .second, .val (.double (FP.ddiv (FP.l2d (((2 : Int64) * ((p3 >>> ((10 : Int32) &&& 31)).toInt64)) + (1 : Int64))) (FP.i2d (2 : Int32)))), .second, .val (.double (FP.ddiv (FP.l2d p1) (FP.i2d (1 : Int32)))), .second, .val (.int (1 : Int32)), .val (.int (0 : Int32))] [])) _
          refine XS.dload X49.here hx rfl (hb hby at_262) rfl ?_
          show Steps p.tables e below (T49.setTop (mkF m 264 #[.val (.int p0), .val (.long p1), .second, .val (.long p2), .second, .val (.int p3), .val (.int p4), .val (.int (p3 >>> ((10 : Int32) &&& 31))), .val (.double (FP.ddiv (FP.l2d p1) (FP.i2d p0))), .second, .val (.double (FP.ddiv (FP.l2d p2) (FP.i2d p0))), .second, .val (.double (FP.ddiv (FP.l2d (((p3 >>> ((10 : Int32) &&& 31)).toInt64) * (p0.toInt64))) (FP.i2d p0))), .second, .val (.double (FP.ddiv (FP.l2d (((2 : Int64) * ((p3 >>> ((10 : Int32) &&& 31)).toInt64)) + (1 : Int64))) (FP.i2d (2 : Int32)))), .second, .val (.double (FP.ddiv (FP.l2d p1) (FP.i2d (1 : Int32)))), .second, .val (.int (1 : Int32)), .val (.int (0 : Int32))] [(.double (FP.ddiv (FP.l2d p1) (FP.i2d p0)))])) _
          refine XS.dload X49.here hx rfl (hb hby at_264) rfl ?_
          show Steps p.tables e below (T49.setTop (mkF m 266 #[.val (.int p0), .val (.long p1), .second, .val (.long p2), .second, .val (.int p3), .val (.int p4), .val (.int (p3 >>> ((10 : Int32) &&& 31))), .val (.double (FP.ddiv (FP.l2d p1) (FP.i2d p0))), .second, .val (.double (FP.ddiv (FP.l2d p2) (FP.i2d p0))), .second, .val (.double (FP.ddiv (FP.l2d (((p3 >>> ((10 : Int32) &&& 31)).toInt64) * (p0.toInt64))) (FP.i2d p0))), .second, .val (.double (FP.ddiv (FP.l2d (((2 : Int64) * ((p3 >>> ((10 : Int32) &&& 31)).toInt64)) + (1 : Int64))) (FP.i2d (2 : Int32)))), .second, .val (.double (FP.ddiv (FP.l2d p1) (FP.i2d (1 : Int32)))), .second, .val (.int (1 : Int32)), .val (.int (0 : Int32))] [(.double (FP.ddiv (FP.l2d p2) (FP.i2d p0))), (.double (FP.ddiv (FP.l2d p1) (FP.i2d p0)))])) _
          refine XS.dcmpS X49.here hx rfl (hb hby at_266) rfl (v := (cmpValue (FP.dcmp (FP.ddiv (FP.l2d p1) (FP.i2d p0)) (FP.ddiv (FP.l2d p2) (FP.i2d p0))) .g)) rfl ?_
          show Steps p.tables e below (T49.setTop (mkF m 267 #[.val (.int p0), .val (.long p1), .second, .val (.long p2), .second, .val (.int p3), .val (.int p4), .val (.int (p3 >>> ((10 : Int32) &&& 31))), .val (.double (FP.ddiv (FP.l2d p1) (FP.i2d p0))), .second, .val (.double (FP.ddiv (FP.l2d p2) (FP.i2d p0))), .second, .val (.double (FP.ddiv (FP.l2d (((p3 >>> ((10 : Int32) &&& 31)).toInt64) * (p0.toInt64))) (FP.i2d p0))), .second, .val (.double (FP.ddiv (FP.l2d (((2 : Int64) * ((p3 >>> ((10 : Int32) &&& 31)).toInt64)) + (1 : Int64))) (FP.i2d (2 : Int32)))), .second, .val (.double (FP.ddiv (FP.l2d p1) (FP.i2d (1 : Int32)))), .second, .val (.int (1 : Int32)), .val (.int (0 : Int32))] [(.int (cmpValue (FP.dcmp (FP.ddiv (FP.l2d p1) (FP.i2d p0)) (FP.ddiv (FP.l2d p2) (FP.i2d p0))) .g))])) _
          refine XS.ifNo X49.here hx rfl (hb hby at_267) rfl ((if0 _ _).trans (flt (own_cle (own_avF _ hd0).ne (own_avF _ hd0).ne (own_dn hd0 hc52 (by have q := (lw_gt _ _).mp hc56; rw [Int64.lt_iff_toInt_lt] at q; omega)) .g)).2.2.1) ?_
          show Steps p.tables e below (T49.setTop (mkF m 270 #[.val (.int p0), .val (.long p1), .second, .val (.long p2), .second, .val (.int p3), .val (.int p4), .val (.int (p3 >>> ((10 : Int32) &&& 31))), .val (.double (FP.ddiv (FP.l2d p1) (FP.i2d p0))), .second, .val (.double (FP.ddiv (FP.l2d p2) (FP.i2d p0))), .second, .val (.double (FP.ddiv (FP.l2d (((p3 >>> ((10 : Int32) &&& 31)).toInt64) * (p0.toInt64))) (FP.i2d p0))), .second, .val (.double (FP.ddiv (FP.l2d (((2 : Int64) * ((p3 >>> ((10 : Int32) &&& 31)).toInt64)) + (1 : Int64))) (FP.i2d (2 : Int32)))), .second, .val (.double (FP.ddiv (FP.l2d p1) (FP.i2d (1 : Int32)))), .second, .val (.int (1 : Int32)), .val (.int (0 : Int32))] [])) _
          refine XS.iconst X49.here hx rfl (hb hby at_270) ?_
          show Steps p.tables e below (T49.setTop (mkF m 271 #[.val (.int p0), .val (.long p1), .second, .val (.long p2), .second, .val (.int p3), .val (.int p4), .val (.int (p3 >>> ((10 : Int32) &&& 31))), .val (.double (FP.ddiv (FP.l2d p1) (FP.i2d p0))), .second, .val (.double (FP.ddiv (FP.l2d p2) (FP.i2d p0))), .second, .val (.double (FP.ddiv (FP.l2d (((p3 >>> ((10 : Int32) &&& 31)).toInt64) * (p0.toInt64))) (FP.i2d p0))), .second, .val (.double (FP.ddiv (FP.l2d (((2 : Int64) * ((p3 >>> ((10 : Int32) &&& 31)).toInt64)) + (1 : Int64))) (FP.i2d (2 : Int32)))), .second, .val (.double (FP.ddiv (FP.l2d p1) (FP.i2d (1 : Int32)))), .second, .val (.int (1 : Int32)), .val (.int (0 : Int32))] [(.int (1 : Int32))])) _
          refine XS.goto X49.here hx rfl (pc0 := 271) (pc' := 275) rfl (hb hby at_271) (by decide) (by decide) ?_
          show Steps p.tables e below (T49.setTop (mkF m 275 #[.val (.int p0), .val (.long p1), .second, .val (.long p2), .second, .val (.int p3), .val (.int p4), .val (.int (p3 >>> ((10 : Int32) &&& 31))), .val (.double (FP.ddiv (FP.l2d p1) (FP.i2d p0))), .second, .val (.double (FP.ddiv (FP.l2d p2) (FP.i2d p0))), .second, .val (.double (FP.ddiv (FP.l2d (((p3 >>> ((10 : Int32) &&& 31)).toInt64) * (p0.toInt64))) (FP.i2d p0))), .second, .val (.double (FP.ddiv (FP.l2d (((2 : Int64) * ((p3 >>> ((10 : Int32) &&& 31)).toInt64)) + (1 : Int64))) (FP.i2d (2 : Int32)))), .second, .val (.double (FP.ddiv (FP.l2d p1) (FP.i2d (1 : Int32)))), .second, .val (.int (1 : Int32)), .val (.int (0 : Int32))] [(.int (1 : Int32))])) _
          refine XS.istore X49.here hx rfl (hb hby at_275) rfl (l' := #[.val (.int p0), .val (.long p1), .second, .val (.long p2), .second, .val (.int p3), .val (.int p4), .val (.int (p3 >>> ((10 : Int32) &&& 31))), .val (.double (FP.ddiv (FP.l2d p1) (FP.i2d p0))), .second, .val (.double (FP.ddiv (FP.l2d p2) (FP.i2d p0))), .second, .val (.double (FP.ddiv (FP.l2d (((p3 >>> ((10 : Int32) &&& 31)).toInt64) * (p0.toInt64))) (FP.i2d p0))), .second, .val (.double (FP.ddiv (FP.l2d (((2 : Int64) * ((p3 >>> ((10 : Int32) &&& 31)).toInt64)) + (1 : Int64))) (FP.i2d (2 : Int32)))), .second, .val (.double (FP.ddiv (FP.l2d p1) (FP.i2d (1 : Int32)))), .second, .val (.int (1 : Int32)), .val (.int (0 : Int32))]) rfl ?_
          show Steps p.tables e below (T49.setTop (mkF m 277 #[.val (.int p0), .val (.long p1), .second, .val (.long p2), .second, .val (.int p3), .val (.int p4), .val (.int (p3 >>> ((10 : Int32) &&& 31))), .val (.double (FP.ddiv (FP.l2d p1) (FP.i2d p0))), .second, .val (.double (FP.ddiv (FP.l2d p2) (FP.i2d p0))), .second, .val (.double (FP.ddiv (FP.l2d (((p3 >>> ((10 : Int32) &&& 31)).toInt64) * (p0.toInt64))) (FP.i2d p0))), .second, .val (.double (FP.ddiv (FP.l2d (((2 : Int64) * ((p3 >>> ((10 : Int32) &&& 31)).toInt64)) + (1 : Int64))) (FP.i2d (2 : Int32)))), .second, .val (.double (FP.ddiv (FP.l2d p1) (FP.i2d (1 : Int32)))), .second, .val (.int (1 : Int32)), .val (.int (0 : Int32))] [])) _
          refine XS.iload X49.here hx rfl (hb hby at_277) rfl ?_
          show Steps p.tables e below (T49.setTop (mkF m 279 #[.val (.int p0), .val (.long p1), .second, .val (.long p2), .second, .val (.int p3), .val (.int p4), .val (.int (p3 >>> ((10 : Int32) &&& 31))), .val (.double (FP.ddiv (FP.l2d p1) (FP.i2d p0))), .second, .val (.double (FP.ddiv (FP.l2d p2) (FP.i2d p0))), .second, .val (.double (FP.ddiv (FP.l2d (((p3 >>> ((10 : Int32) &&& 31)).toInt64) * (p0.toInt64))) (FP.i2d p0))), .second, .val (.double (FP.ddiv (FP.l2d (((2 : Int64) * ((p3 >>> ((10 : Int32) &&& 31)).toInt64)) + (1 : Int64))) (FP.i2d (2 : Int32)))), .second, .val (.double (FP.ddiv (FP.l2d p1) (FP.i2d (1 : Int32)))), .second, .val (.int (1 : Int32)), .val (.int (0 : Int32))] [(.int (1 : Int32))])) _
          exact retN X49 hx (t := .boolean) Bd.returns (by simp) (hb hby at_279) hr
        · show Q0 Z p0 p1 p2 p3 p4 h0 n0 _ T49.heap _
          rw [eh49]
          exact ⟨N49, rfl⟩
      · skip
        obtain ⟨fs, hr, hrun, hended, hW, hsame⟩ := X49.leave (v := (some (.int (1 : Int32)))) (fun h => by rw [Bd.returns] at h; cases h)
        refine ⟨_, _, pre55 _ ?_, hrun, hended, _, _, rfl, ?_, ⟨_, rfl⟩, hW, hsame.mono (by decide) (by decide)⟩
        · show Steps p.tables e below (T49.setTop (mkF m 199 #[.val (.int p0), .val (.long p1), .second, .val (.long p2), .second, .val (.int p3), .val (.int p4), .val (.int (p3 >>> ((10 : Int32) &&& 31))), .val (.double (FP.ddiv (FP.l2d p1) (FP.i2d p0))), .second, .val (.double (FP.ddiv (FP.l2d p2) (FP.i2d p0))), .second, .val (.double (FP.ddiv (FP.l2d (((p3 >>> ((10 : Int32) &&& 31)).toInt64) * (p0.toInt64))) (FP.i2d p0))), .second, .val (.double (FP.ddiv (FP.l2d (((2 : Int64) * ((p3 >>> ((10 : Int32) &&& 31)).toInt64)) + (1 : Int64))) (FP.i2d (2 : Int32)))), .second, .val (.double (FP.ddiv (FP.l2d p1) (FP.i2d (1 : Int32)))), .second, .val (.int (1 : Int32)), .val (.int (0 : Int32))] [(.int (lcmpW p1 p2))])) _
          refine XS.ifNo X49.here hx rfl (hb hby at_199) rfl ((if0 _ _).trans (flt hc56).2.2.1) ?_
          show Steps p.tables e below (T49.setTop (mkF m 202 #[.val (.int p0), .val (.long p1), .second, .val (.long p2), .second, .val (.int p3), .val (.int p4), .val (.int (p3 >>> ((10 : Int32) &&& 31))), .val (.double (FP.ddiv (FP.l2d p1) (FP.i2d p0))), .second, .val (.double (FP.ddiv (FP.l2d p2) (FP.i2d p0))), .second, .val (.double (FP.ddiv (FP.l2d (((p3 >>> ((10 : Int32) &&& 31)).toInt64) * (p0.toInt64))) (FP.i2d p0))), .second, .val (.double (FP.ddiv (FP.l2d (((2 : Int64) * ((p3 >>> ((10 : Int32) &&& 31)).toInt64)) + (1 : Int64))) (FP.i2d (2 : Int32)))), .second, .val (.double (FP.ddiv (FP.l2d p1) (FP.i2d (1 : Int32)))), .second, .val (.int (1 : Int32)), .val (.int (0 : Int32))] [])) _
          refine XS.iload X49.here hx rfl (hb hby at_202) rfl ?_
          show Steps p.tables e below (T49.setTop (mkF m 204 #[.val (.int p0), .val (.long p1), .second, .val (.long p2), .second, .val (.int p3), .val (.int p4), .val (.int (p3 >>> ((10 : Int32) &&& 31))), .val (.double (FP.ddiv (FP.l2d p1) (FP.i2d p0))), .second, .val (.double (FP.ddiv (FP.l2d p2) (FP.i2d p0))), .second, .val (.double (FP.ddiv (FP.l2d (((p3 >>> ((10 : Int32) &&& 31)).toInt64) * (p0.toInt64))) (FP.i2d p0))), .second, .val (.double (FP.ddiv (FP.l2d (((2 : Int64) * ((p3 >>> ((10 : Int32) &&& 31)).toInt64)) + (1 : Int64))) (FP.i2d (2 : Int32)))), .second, .val (.double (FP.ddiv (FP.l2d p1) (FP.i2d (1 : Int32)))), .second, .val (.int (1 : Int32)), .val (.int (0 : Int32))] [(.int (1 : Int32))])) _
          refine XS.ifNo X49.here hx rfl (hb hby at_204) rfl (by decide) ?_
          show Steps p.tables e below (T49.setTop (mkF m 207 #[.val (.int p0), .val (.long p1), .second, .val (.long p2), .second, .val (.int p3), .val (.int p4), .val (.int (p3 >>> ((10 : Int32) &&& 31))), .val (.double (FP.ddiv (FP.l2d p1) (FP.i2d p0))), .second, .val (.double (FP.ddiv (FP.l2d p2) (FP.i2d p0))), .second, .val (.double (FP.ddiv (FP.l2d (((p3 >>> ((10 : Int32) &&& 31)).toInt64) * (p0.toInt64))) (FP.i2d p0))), .second, .val (.double (FP.ddiv (FP.l2d (((2 : Int64) * ((p3 >>> ((10 : Int32) &&& 31)).toInt64)) + (1 : Int64))) (FP.i2d (2 : Int32)))), .second, .val (.double (FP.ddiv (FP.l2d p1) (FP.i2d (1 : Int32)))), .second, .val (.int (1 : Int32)), .val (.int (0 : Int32))] [])) _
          refine XS.iload X49.here hx rfl (hb hby at_207) rfl ?_
          show Steps p.tables e below (T49.setTop (mkF m 209 #[.val (.int p0), .val (.long p1), .second, .val (.long p2), .second, .val (.int p3), .val (.int p4), .val (.int (p3 >>> ((10 : Int32) &&& 31))), .val (.double (FP.ddiv (FP.l2d p1) (FP.i2d p0))), .second, .val (.double (FP.ddiv (FP.l2d p2) (FP.i2d p0))), .second, .val (.double (FP.ddiv (FP.l2d (((p3 >>> ((10 : Int32) &&& 31)).toInt64) * (p0.toInt64))) (FP.i2d p0))), .second, .val (.double (FP.ddiv (FP.l2d (((2 : Int64) * ((p3 >>> ((10 : Int32) &&& 31)).toInt64)) + (1 : Int64))) (FP.i2d (2 : Int32)))), .second, .val (.double (FP.ddiv (FP.l2d p1) (FP.i2d (1 : Int32)))), .second, .val (.int (1 : Int32)), .val (.int (0 : Int32))] [(.int (0 : Int32))])) _
          refine XS.ifYes X49.here hx rfl (pc0 := 209) (pc' := 223) rfl (hb hby at_209) rfl (by decide) (by decide) (by decide) ?_
          show Steps p.tables e below (T49.setTop (mkF m 223 #[.val (.int p0), .val (.long p1), .second, .val (.long p2), .second, .val (.int p3), .val (.int p4), .val (.int (p3 >>> ((10 : Int32) &&& 31))), .val (.double (FP.ddiv (FP.l2d p1) (FP.i2d p0))), .second, .val (.double (FP.ddiv (FP.l2d p2) (FP.i2d p0))), .second, .val (.double (FP.ddiv (FP.l2d (((p3 >>> ((10 : Int32) &&& 31)).toInt64) * (p0.toInt64))) (FP.i2d p0))), .second, .val (.double (FP.ddiv (FP.l2d (((2 : Int64) * ((p3 >>> ((10 : Int32) &&& 31)).toInt64)) + (1 : Int64))) (FP.i2d (2 : Int32)))), .second, .val (.double (FP.ddiv (FP.l2d p1) (FP.i2d (1 : Int32)))), .second, .val (.int (1 : Int32)), .val (.int (0 : Int32))] [])) _
          refine XS.dload X49.here hx rfl (hb hby at_223) rfl ?_
          show Steps p.tables e below (T49.setTop (mkF m 225 #[.val (.int p0), .val (.long p1), .second, .val (.long p2), .second, .val (.int p3), .val (.int p4), .val (.int (p3 >>> ((10 : Int32) &&& 31))), .val (.double (FP.ddiv (FP.l2d p1) (FP.i2d p0))), .second, .val (.double (FP.ddiv (FP.l2d p2) (FP.i2d p0))), .second, .val (.double (FP.ddiv (FP.l2d (((p3 >>> ((10 : Int32) &&& 31)).toInt64) * (p0.toInt64))) (FP.i2d p0))), .second, .val (.double (FP.ddiv (FP.l2d (((2 : Int64) * ((p3 >>> ((10 : Int32) &&& 31)).toInt64)) + (1 : Int64))) (FP.i2d (2 : Int32)))), .second, .val (.double (FP.ddiv (FP.l2d p1) (FP.i2d (1 : Int32)))), .second, .val (.int (1 : Int32)), .val (.int (0 : Int32))] [(.double (FP.ddiv (FP.l2d p1) (FP.i2d p0)))])) _
          refine XS.dload X49.here hx rfl (hb hby at_225) rfl ?_
          show Steps p.tables e below (T49.setTop (mkF m 227 #[.val (.int p0), .val (.long p1), .second, .val (.long p2), .second, .val (.int p3), .val (.int p4), .val (.int (p3 >>> ((10 : Int32) &&& 31))), .val (.double (FP.ddiv (FP.l2d p1) (FP.i2d p0))), .second, .val (.double (FP.ddiv (FP.l2d p2) (FP.i2d p0))), .second, .val (.double (FP.ddiv (FP.l2d (((p3 >>> ((10 : Int32) &&& 31)).toInt64) * (p0.toInt64))) (FP.i2d p0))), .second, .val (.double (FP.ddiv (FP.l2d (((2 : Int64) * ((p3 >>> ((10 : Int32) &&& 31)).toInt64)) + (1 : Int64))) (FP.i2d (2 : Int32)))), .second, .val (.double (FP.ddiv (FP.l2d p1) (FP.i2d (1 : Int32)))), .second, .val (.int (1 : Int32)), .val (.int (0 : Int32))] [(.double (FP.ddiv (FP.l2d p2) (FP.i2d p0))), (.double (FP.ddiv (FP.l2d p1) (FP.i2d p0)))])) _
          refine XS.dcmpS X49.here hx rfl (hb hby at_227) rfl (v := (cmpValue (FP.dcmp (FP.ddiv (FP.l2d p1) (FP.i2d p0)) (FP.ddiv (FP.l2d p2) (FP.i2d p0))) .l)) rfl ?_
          show Steps p.tables e below (T49.setTop (mkF m 228 #[.val (.int p0), .val (.long p1), .second, .val (.long p2), .second, .val (.int p3), .val (.int p4), .val (.int (p3 >>> ((10 : Int32) &&& 31))), .val (.double (FP.ddiv (FP.l2d p1) (FP.i2d p0))), .second, .val (.double (FP.ddiv (FP.l2d p2) (FP.i2d p0))), .second, .val (.double (FP.ddiv (FP.l2d (((p3 >>> ((10 : Int32) &&& 31)).toInt64) * (p0.toInt64))) (FP.i2d p0))), .second, .val (.double (FP.ddiv (FP.l2d (((2 : Int64) * ((p3 >>> ((10 : Int32) &&& 31)).toInt64)) + (1 : Int64))) (FP.i2d (2 : Int32)))), .second, .val (.double (FP.ddiv (FP.l2d p1) (FP.i2d (1 : Int32)))), .second, .val (.int (1 : Int32)), .val (.int (0 : Int32))] [(.int (cmpValue (FP.dcmp (FP.ddiv (FP.l2d p1) (FP.i2d p0)) (FP.ddiv (FP.l2d p2) (FP.i2d p0))) .l))])) _
          refine XS.ifNo X49.here hx rfl (hb hby at_228) rfl ((if0 _ _).trans (flt (own_cge (own_avF _ hd0).ne (own_avF _ hd0).ne (own_dn hd0 hc52 (by have q := mt (lw_gt _ _).mpr hc56; rw [Int64.lt_iff_toInt_lt] at q; omega)) .l)).1) ?_
          show Steps p.tables e below (T49.setTop (mkF m 231 #[.val (.int p0), .val (.long p1), .second, .val (.long p2), .second, .val (.int p3), .val (.int p4), .val (.int (p3 >>> ((10 : Int32) &&& 31))), .val (.double (FP.ddiv (FP.l2d p1) (FP.i2d p0))), .second, .val (.double (FP.ddiv (FP.l2d p2) (FP.i2d p0))), .second, .val (.double (FP.ddiv (FP.l2d (((p3 >>> ((10 : Int32) &&& 31)).toInt64) * (p0.toInt64))) (FP.i2d p0))), .second, .val (.double (FP.ddiv (FP.l2d (((2 : Int64) * ((p3 >>> ((10 : Int32) &&& 31)).toInt64)) + (1 : Int64))) (FP.i2d (2 : Int32)))), .second, .val (.double (FP.ddiv (FP.l2d p1) (FP.i2d (1 : Int32)))), .second, .val (.int (1 : Int32)), .val (.int (0 : Int32))] [])) _
          refine XS.iconst X49.here hx rfl (hb hby at_231) ?_
          show Steps p.tables e below (T49.setTop (mkF m 232 #[.val (.int p0), .val (.long p1), .second, .val (.long p2), .second, .val (.int p3), .val (.int p4), .val (.int (p3 >>> ((10 : Int32) &&& 31))), .val (.double (FP.ddiv (FP.l2d p1) (FP.i2d p0))), .second, .val (.double (FP.ddiv (FP.l2d p2) (FP.i2d p0))), .second, .val (.double (FP.ddiv (FP.l2d (((p3 >>> ((10 : Int32) &&& 31)).toInt64) * (p0.toInt64))) (FP.i2d p0))), .second, .val (.double (FP.ddiv (FP.l2d (((2 : Int64) * ((p3 >>> ((10 : Int32) &&& 31)).toInt64)) + (1 : Int64))) (FP.i2d (2 : Int32)))), .second, .val (.double (FP.ddiv (FP.l2d p1) (FP.i2d (1 : Int32)))), .second, .val (.int (1 : Int32)), .val (.int (0 : Int32))] [(.int (1 : Int32))])) _
          refine XS.goto X49.here hx rfl (pc0 := 232) (pc' := 236) rfl (hb hby at_232) (by decide) (by decide) ?_
          show Steps p.tables e below (T49.setTop (mkF m 236 #[.val (.int p0), .val (.long p1), .second, .val (.long p2), .second, .val (.int p3), .val (.int p4), .val (.int (p3 >>> ((10 : Int32) &&& 31))), .val (.double (FP.ddiv (FP.l2d p1) (FP.i2d p0))), .second, .val (.double (FP.ddiv (FP.l2d p2) (FP.i2d p0))), .second, .val (.double (FP.ddiv (FP.l2d (((p3 >>> ((10 : Int32) &&& 31)).toInt64) * (p0.toInt64))) (FP.i2d p0))), .second, .val (.double (FP.ddiv (FP.l2d (((2 : Int64) * ((p3 >>> ((10 : Int32) &&& 31)).toInt64)) + (1 : Int64))) (FP.i2d (2 : Int32)))), .second, .val (.double (FP.ddiv (FP.l2d p1) (FP.i2d (1 : Int32)))), .second, .val (.int (1 : Int32)), .val (.int (0 : Int32))] [(.int (1 : Int32))])) _
          refine XS.istore X49.here hx rfl (hb hby at_236) rfl (l' := #[.val (.int p0), .val (.long p1), .second, .val (.long p2), .second, .val (.int p3), .val (.int p4), .val (.int (p3 >>> ((10 : Int32) &&& 31))), .val (.double (FP.ddiv (FP.l2d p1) (FP.i2d p0))), .second, .val (.double (FP.ddiv (FP.l2d p2) (FP.i2d p0))), .second, .val (.double (FP.ddiv (FP.l2d (((p3 >>> ((10 : Int32) &&& 31)).toInt64) * (p0.toInt64))) (FP.i2d p0))), .second, .val (.double (FP.ddiv (FP.l2d (((2 : Int64) * ((p3 >>> ((10 : Int32) &&& 31)).toInt64)) + (1 : Int64))) (FP.i2d (2 : Int32)))), .second, .val (.double (FP.ddiv (FP.l2d p1) (FP.i2d (1 : Int32)))), .second, .val (.int (1 : Int32)), .val (.int (0 : Int32))]) rfl ?_
          show Steps p.tables e below (T49.setTop (mkF m 238 #[.val (.int p0), .val (.long p1), .second, .val (.long p2), .second, .val (.int p3), .val (.int p4), .val (.int (p3 >>> ((10 : Int32) &&& 31))), .val (.double (FP.ddiv (FP.l2d p1) (FP.i2d p0))), .second, .val (.double (FP.ddiv (FP.l2d p2) (FP.i2d p0))), .second, .val (.double (FP.ddiv (FP.l2d (((p3 >>> ((10 : Int32) &&& 31)).toInt64) * (p0.toInt64))) (FP.i2d p0))), .second, .val (.double (FP.ddiv (FP.l2d (((2 : Int64) * ((p3 >>> ((10 : Int32) &&& 31)).toInt64)) + (1 : Int64))) (FP.i2d (2 : Int32)))), .second, .val (.double (FP.ddiv (FP.l2d p1) (FP.i2d (1 : Int32)))), .second, .val (.int (1 : Int32)), .val (.int (0 : Int32))] [])) _
          refine XS.goto X49.here hx rfl (pc0 := 238) (pc' := 277) rfl (hb hby at_238) (by decide) (by decide) ?_
          show Steps p.tables e below (T49.setTop (mkF m 277 #[.val (.int p0), .val (.long p1), .second, .val (.long p2), .second, .val (.int p3), .val (.int p4), .val (.int (p3 >>> ((10 : Int32) &&& 31))), .val (.double (FP.ddiv (FP.l2d p1) (FP.i2d p0))), .second, .val (.double (FP.ddiv (FP.l2d p2) (FP.i2d p0))), .second, .val (.double (FP.ddiv (FP.l2d (((p3 >>> ((10 : Int32) &&& 31)).toInt64) * (p0.toInt64))) (FP.i2d p0))), .second, .val (.double (FP.ddiv (FP.l2d (((2 : Int64) * ((p3 >>> ((10 : Int32) &&& 31)).toInt64)) + (1 : Int64))) (FP.i2d (2 : Int32)))), .second, .val (.double (FP.ddiv (FP.l2d p1) (FP.i2d (1 : Int32)))), .second, .val (.int (1 : Int32)), .val (.int (0 : Int32))] [])) _
          refine XS.iload X49.here hx rfl (hb hby at_277) rfl ?_
          show Steps p.tables e below (T49.setTop (mkF m 279 #[.val (.int p0), .val (.long p1), .second, .val (.long p2), .second, .val (.int p3), .val (.int p4), .val (.int (p3 >>> ((10 : Int32) &&& 31))), .val (.double (FP.ddiv (FP.l2d p1) (FP.i2d p0))), .second, .val (.double (FP.ddiv (FP.l2d p2) (FP.i2d p0))), .second, .val (.double (FP.ddiv (FP.l2d (((p3 >>> ((10 : Int32) &&& 31)).toInt64) * (p0.toInt64))) (FP.i2d p0))), .second, .val (.double (FP.ddiv (FP.l2d (((2 : Int64) * ((p3 >>> ((10 : Int32) &&& 31)).toInt64)) + (1 : Int64))) (FP.i2d (2 : Int32)))), .second, .val (.double (FP.ddiv (FP.l2d p1) (FP.i2d (1 : Int32)))), .second, .val (.int (1 : Int32)), .val (.int (0 : Int32))] [(.int (1 : Int32))])) _
          exact retN X49 hx (t := .boolean) Bd.returns (by simp) (hb hby at_279) hr
        · show Q0 Z p0 p1 p2 p3 p4 h0 n0 _ T49.heap _
          rw [eh49]
          exact ⟨N49, rfl⟩
set_option maxRecDepth 65536 in
set_option maxHeartbeats 40000000 in
theorem comes_1 {Post : Tables → Env → Array Value → State → Outcome → State → Prop} (hpost : ∀ tb e args s v u, (limb_1_1.after args s (.returned v) u = true ∧ limb_1_2.after args s (.returned v) u = true ∧ True) → FrameEnd s (.returned v) u (Jvm.fieldLocs frame_1_writes args s ++ Jvm.arrayLocs frame_1_arrays args s ++ Jvm.staticLocs frame_1_statics s) 24 128 → Post tb e args s (.returned v) u) :
    ArmFor flags0 classFile x code maxLocals ret World_1 tables_1 room_1 Calls_1 rest_1 Pre_1 Post := by
  intro l hfl _ _ p e ha hc hk s m args below hf hA hF happ hP
  obtain ⟨hcalls, hrest, hpre⟩ := hP
  obtain ⟨-, -, -, hnamed, -, -, -, hat⟩ := (Spec.applies_iff hf).mp happ
  obtain ⟨hg, hn⟩ := and_e (Cond.before_iff.mp (show (Jvm.Cond.and given_1 narrow_1).before args s = true from hpre))
  obtain ⟨gv1, gv2⟩ := and_e hg
  obtain ⟨gv3, gv4⟩ := and_e gv2
  obtain ⟨gv5, gv6⟩ := and_e gv4
  obtain ⟨gv7, gv8⟩ := and_e gv6
  obtain ⟨gv9, gv10⟩ := and_e gv8
  obtain ⟨w0, w1, w2, w3, w4, rfl⟩ : ∃ w0 w1 w2 w3 w4 : Value, args = #[w0, w1, w2, w3, w4] := by
    have hs : args.size = 5 := by simpa [Cond.value, given_1] using gv1
    obtain ⟨L⟩ := args
    match L, hs with
    | [w0, w1, w2, w3, w4], _ => exact ⟨w0, w1, w2, w3, w4, rfl⟩
  have hw := fun d (hd : d ∈ tables_1) => atoms_spec (ws := Jvm.Cond.code x code maxLocals ret :: tables_1) hat d (List.mem_cons_of_mem _ hd)
  have hfit : Fit s := fun {y c} hc i hi => by
    obtain ⟨ha, rfl⟩ := Array.getElem?_eq_some_iff.mp hc
    have q := List.all_eq_true.mp ((Array.all_eq_true_iff_forall_mem.mp hF) _ (Array.getElem_mem ha)) i (List.mem_range.mpr hi)
    simpa [Array.getElem?_eq_getElem hi] using q
  obtain ⟨i0, ei0⟩ := is_v gv3
  obtain rfl : w0 = (.int i0) := Option.some.inj ei0
  obtain ⟨i1, ei1⟩ := isL_v gv5
  obtain rfl : w1 = (.long i1) := Option.some.inj ei1
  obtain ⟨i2, ei2⟩ := isL_v gv7
  obtain rfl : w2 = (.long i2) := Option.some.inj ei2
  obtain ⟨i3, ei3⟩ := is_v gv9
  obtain rfl : w3 = (.int i3) := Option.some.inj ei3
  obtain ⟨i4, ei4⟩ := is_v gv10
  obtain rfl : w4 = (.int i4) := Option.some.inj ei4
  obtain ⟨n, o, h1, h2, h3, _, L, rfl, ⟨N, rfl⟩, hq⟩ := rm0 l s _ hw tables_1 i0 i1 i2 i3 i4 s.heap s.heap.size (Nat.le_refl _) p e ha hc hk s m _ below hf ((Spec.applies_iff_loose hf).mp happ).1 ⟨rfl, State.Warmed39.refl s, rfl⟩ trivial
  refine ⟨n, _, h1, h2, h3, hpost _ _ _ _ _ _ ⟨Cond.after_iff.mpr rfl, Cond.after_iff.mpr (eq_i res_at (Term.int_eval (1)) rfl), trivial⟩ ⟨hq.1, hq.2.1, (hq.2.2.sift fun y hy => Or.inr (N y hy)).mono (by decide) (by decide)⟩⟩
theorem main_1_1 : Claimed_1_1 := comes_1 fun _ _ _ _ _ _ h hF => ⟨h.1, hF⟩
theorem main_1_2 : Claimed_1_2 := comes_1 fun _ _ _ _ _ _ h hF => ⟨h.2.1, hF⟩
end Jvm.Pilot.@@N@@
namespace Jvm.Pilot.@@N@@
open Jvm Jvm.ClassFile Sem Op Lib Jvm.Free Jvm.Stand Jvm.Pilot.@@N@@.Jvm.D
/-! MADE BY PROGRAM (witnessworld.py) out of the Statement's table words and the real class files: 10 classes; the members and pool entries that the words name. The judged class is class 1, her method 1. -/
namespace start1
open Jvm.ClassFile
def u (s : String) : CpInfo := .utf8 (stringToUtf16 s)
/-- a pool by its gaps: so many unusable entries, then the entry; so many at the end -/
def gap : Nat → List CpInfo → List CpInfo
  | 0, r => r
  | n + 1, r => .unusable :: gap n r
def poolList (es : List (Nat × CpInfo)) (last : Nat) : List CpInfo := es.foldr (fun e r => gap e.1 (e.2 :: r)) (gap last [])
def pool (es : List (Nat × CpInfo)) (last : Nat) : Array CpInfo := ⟨poolList es last⟩
def fileOf (pool : Array CpInfo) (this : Nat) (attrs : Array Attribute := #[]) (ms : Array MethodInfo := #[]) (fl : Nat := 33) (sup : Nat := 0) (ifs : Array Nat := #[]) (fds : Array FieldInfo := #[]) : ClassFile where
  minorVersion := 0
  majorVersion := 65
  constantPool := pool
  accessFlags := fl
  thisClass := this
  superClass := sup
  interfaces := ifs
  fields := fds
  methods := ms
  attributes := attrs
def plain (name : String) (sup : Option ClassId) : Class where
  name := name
  kind := .ordinary
  loader := none
  accessFlags := 33
  super := sup
  interfaces := #[]
  cf := none
  fields := #[]
  methods := #[]
  instanceTypes := #[]
  staticTypes := #[]
  resolved := #[]
  callSites := []
  init := .initialized
  statics := none
  mirror := none

def pool0 : Array CpInfo := pool [(5, u "<init>"), (0, u "()V"), (1, .class_ 10), (1, u "java/lang/Object")] 113

def k0c0 : Code := { maxStack := 0, maxLocals := 1, code := object_method_1_code, exceptionTable := #[], attributes := #[] }
def k0m0 : Method := { name := "<init>", desc := "()V", sig := { parameters := [], returnType := none }, accessFlags := 1, code := some k0c0 }
/-- java/lang/Object -/
def k0 : Class := { plain "java/lang/Object" none with
  accessFlags := 33
  interfaces := #[]
  cf := some (fileOf pool0 8 #[] #[{ accessFlags := 1, nameIndex := 5, descriptorIndex := 6, attributes := #[] }] 33 0 #[] #[])
  fields := #[]
  methods := #[k0m0]
  instanceTypes := #[]
  staticTypes := #[]
  resolved := Array.replicate 124 none
  statics := none }

def pool1 : Array CpInfo := pool [(2, .class_ 4), (1, u "java/lang/Object"), (0, u "<init>"), (0, u "()V"), (0, .class_ 8), (0, u "com/example/herault/herault/index/IndexStatistics"), (0, .methodref 7 10), (0, .nameAndType 5 11), (0, u "(IJI)V"), (0, .methodref 7 13), (0, .nameAndType 14 15), (0, u "averageDocumentLength"), (0, u "()D"), (0, .long 2), (1, .double 4602678819172646912), (1, .class_ 21), (0, u "com/example/herault/herault/index/IndexStatisticsAverageDocumentLengthPinLaw"), (2, u "law"), (0, u "(IJJII)Z")] 3

def k1m0 : Method := { name := "<init>", desc := "()V", sig := { parameters := [], returnType := none }, accessFlags := 1, code := none }
def k1c1 : Code := { maxStack := 7, maxLocals := 20, code := code, exceptionTable := #[], attributes := #[] }
def k1m1 : Method := { name := "law", desc := "(IJJII)Z", sig := { parameters := [.int, .long, .long, .int, .int], returnType := some .boolean }, accessFlags := 9, code := some k1c1 }
/-- com/example/herault/herault/index/IndexStatisticsAverageDocumentLengthPinLaw -/
def k1 : Class := { plain "com/example/herault/herault/index/IndexStatisticsAverageDocumentLengthPinLaw" (some 0) with
  accessFlags := 49
  interfaces := #[]
  cf := some (fileOf pool1 20 #[] #[{ accessFlags := 1, nameIndex := 5, descriptorIndex := 6, attributes := #[] }, { accessFlags := 9, nameIndex := 24, descriptorIndex := 25, attributes := #[] }] 49 2 #[] #[])
  fields := #[]
  methods := #[k1m0, k1m1]
  instanceTypes := #[]
  staticTypes := #[]
  resolved := Array.replicate 29 none
  statics := none }

def pool2 : Array CpInfo := pool [(1, .methodref 2 3), (0, .class_ 4), (0, .nameAndType 5 6), (0, u "java/lang/Object"), (0, u "<init>"), (0, u "()V"), (0, .class_ 8), (0, u "java/lang/Record")] 13

def k2c0 : Code := { maxStack := 1, maxLocals := 1, code := jdk_30_method_1_code, exceptionTable := #[], attributes := #[] }
def k2m0 : Method := { name := "<init>", desc := "()V", sig := { parameters := [], returnType := none }, accessFlags := 4, code := some k2c0 }
/-- java/lang/Record -/
def k2 : Class := { plain "java/lang/Record" (some 0) with
  accessFlags := 1057
  interfaces := #[]
  cf := some (fileOf pool2 7 #[] #[{ accessFlags := 4, nameIndex := 5, descriptorIndex := 6, attributes := #[] }] 1057 2 #[] #[])
  fields := #[]
  methods := #[k2m0]
  instanceTypes := #[]
  staticTypes := #[]
  resolved := Array.replicate 22 none
  statics := none }

def pool3 : Array CpInfo := pool [(1, .methodref 2 3), (0, .class_ 4), (0, .nameAndType 5 6), (0, u "java/lang/Record"), (0, u "<init>"), (0, u "()V"), (0, .fieldref 8 9), (0, .class_ 10), (0, .nameAndType 11 12), (0, u "com/example/herault/herault/index/IndexStatistics"), (0, u "documents"), (0, u "I"), (0, .fieldref 8 14), (0, .nameAndType 15 16), (0, u "tokens"), (0, u "J"), (0, .fieldref 8 18), (0, .nameAndType 19 12), (0, u "terms"), (12, u "(IJI)V"), (3, u "averageDocumentLength"), (0, u "()D")] 27

def k3c0 : Code := { maxStack := 3, maxLocals := 5, code := prog_56_method_1_code, exceptionTable := #[], attributes := #[] }
def k3m0 : Method := { name := "<init>", desc := "(IJI)V", sig := { parameters := [.int, .long, .int], returnType := none }, accessFlags := 1, code := some k3c0 }
def k3c1 : Code := { maxStack := 4, maxLocals := 1, code := prog_56_method_2_code, exceptionTable := #[], attributes := #[] }
def k3m1 : Method := { name := "averageDocumentLength", desc := "()D", sig := { parameters := [], returnType := some .double }, accessFlags := 1, code := some k3c1 }
/-- com/example/herault/herault/index/IndexStatistics -/
def k3 : Class := { plain "com/example/herault/herault/index/IndexStatistics" (some 2) with
  accessFlags := 49
  interfaces := #[]
  cf := some (fileOf pool3 8 #[] #[{ accessFlags := 1, nameIndex := 5, descriptorIndex := 32, attributes := #[] }, { accessFlags := 1, nameIndex := 36, descriptorIndex := 37, attributes := #[] }] 49 2 #[] #[{ accessFlags := 18, nameIndex := 11, descriptorIndex := 12, attributes := #[] }, { accessFlags := 18, nameIndex := 15, descriptorIndex := 16, attributes := #[] }, { accessFlags := 18, nameIndex := 19, descriptorIndex := 12, attributes := #[] }])
  fields := #[{ name := "documents", type := .int, accessFlags := 18, slot := 0, constantValue := 0 }, { name := "tokens", type := .long, accessFlags := 18, slot := 1, constantValue := 0 }, { name := "terms", type := .int, accessFlags := 18, slot := 2, constantValue := 0 }]
  methods := #[k3m0, k3m1]
  instanceTypes := #[.int, .long, .int]
  staticTypes := #[]
  resolved := Array.replicate 65 none
  statics := none }

def pool4 : Array CpInfo := pool [(1, u "java/lang/Cloneable"), (0, .class_ 1), (0, u "java/lang/Object"), (0, .class_ 3)] 3

/-- java/lang/Cloneable -/
def k4 : Class := { plain "java/lang/Cloneable" (some 0) with
  accessFlags := 1537
  interfaces := #[]
  cf := some (fileOf pool4 2 #[] #[] 1537 4 #[] #[])
  fields := #[]
  methods := #[]
  instanceTypes := #[]
  staticTypes := #[]
  resolved := Array.replicate 8 none
  statics := none }

def pool5 : Array CpInfo := pool [(1, u "java/io/Serializable"), (0, .class_ 1), (0, u "java/lang/Object"), (0, .class_ 3)] 3

/-- java/io/Serializable -/
def k5 : Class := { plain "java/io/Serializable" (some 0) with
  accessFlags := 1537
  interfaces := #[]
  cf := some (fileOf pool5 2 #[] #[] 1537 4 #[] #[])
  fields := #[]
  methods := #[]
  instanceTypes := #[]
  staticTypes := #[]
  resolved := Array.replicate 8 none
  statics := none }

/-- the primitive byte -/
def k6 : Class := { plain "byte" none with kind := .primitive 'B', accessFlags := 0x411 }
/-- [B -/
def k7 : Class := { plain "[B" (some 0) with kind := .array 6 .byte, interfaces := #[4, 5], accessFlags := 1041 }

/-- the primitive int -/
def k8 : Class := { plain "int" none with kind := .primitive 'I', accessFlags := 0x411 }
/-- [I -/
def k9 : Class := { plain "[I" (some 0) with kind := .array 8 .int, interfaces := #[4, 5], accessFlags := 1041 }

def heap : Heap := #[]
def classes : Array Class := #[k0, k1, k2, k3, k4, k5, k6, k7, k8, k9]
def interned : List (Array UInt16 × Addr) := []
def slotsUsed : Nat := 0
def theMethod : MethodId := ⟨1, 1⟩
def args0 : Array Value := #[.int 5, .long 3, .long 1, .int 2, .int 3]
def aboutOver (below : List Frame) : State where
  vm := { classes := classes, interned := interned.toArray }
  heap := heap
  slotsUsed := slotsUsed
  threads := #[{ frames := .invoking theMethod args0 :: below }]
def below0 : List Frame := [.native { method := ⟨0, 0⟩, args := #[] }]
def about1 : State := aboutOver below0
def p0 : Program := .bare "" "" ""
def e0 : Env := launch0.env 0 0 0
theorem w_frames : about1.frames = Frame.invoking theMethod args0 :: below0 := rfl
set_option maxRecDepth 65536 in
theorem w_args : argsFit about1.vm theMethod args0 = true := by decide +kernel
set_option maxRecDepth 65536 in
theorem w_heap : heapFits about1 = true := by decide +kernel
set_option maxRecDepth 65536 in
theorem w_runnable : about1.curStatus? = some .runnable := by decide +kernel
set_option maxRecDepth 65536 in
theorem w_alone : about1.alone = true := by decide +kernel
set_option maxRecDepth 65536 in
theorem w_named : about1.methodNamed? x = some theMethod := by decide +kernel
set_option maxRecDepth 65536 in
theorem w_hears : about1.hears theMethod below0 = true := by decide +kernel
set_option maxRecDepth 65536 in
theorem w_ripe : about1.ripe theMethod args0 below0 = true := by decide +kernel
theorem w_running : about1.status = .running := rfl
set_option maxRecDepth 65536 in
theorem w_room : about1.hasRoom e0.platform room_1 = true :=
  launch0.hasRoom_least _ room_1 (by decide +kernel) (by decide +kernel) (by decide +kernel) (by decide +kernel) (by decide +kernel) (by decide +kernel)
theorem allAtoms_all (ts : List Jvm.Cond) (a : Array Jvm.Value) (st : Jvm.State) : (allAtoms ts).before a st = ts.all (fun c => c.before a st) := by
  induction ts with
  | nil => rfl
  | cons c t ih =>
    show (Jvm.Cond.and c (allAtoms t)).before a st = _
    rw [Jvm.Cond.before_and, ih, List.all_cons]
def words1 : List Jvm.Cond := Jvm.Cond.code x code maxLocals ret :: tables_1
/-- a 'code' word, met by the world's own term for the bytes: nothing is compared byte by byte -/
theorem code_word {y : MethodName} {bytes : ByteArray} {mx : Nat} {rt : Option FieldType} {a : Array Value} {s : State} {m : MethodId} {meth : Method} {c : Code} (h1 : s.methodNamed? y = some m) (h2 : s.vm.method? m = some meth) (h3 : meth.code = some c) (h4 : c.code = bytes)
    (h5 : (c.maxLocals == mx && c.exceptionTable.isEmpty && decide (c.maxStack ≤ mostOperands) && decide (meth.sig.returnType = rt) && !meth.locks && decide (parseMethodDescriptor y.desc = some meth.sig)) = true) : (Jvm.Cond.code y bytes mx rt).before a s = true := by
  simp only [Bool.and_eq_true, beq_iff_eq, Bool.not_eq_true', decide_eq_true_eq] at h5
  obtain ⟨⟨⟨⟨⟨g1, g2⟩, g3⟩, g4⟩, g5⟩, g6⟩ := h5
  simp [Cond.before, Cond.holds, Cond.value, h1, h2, h3, h4, g1, g2, g3, g4, g5, g6]
def isCode : Jvm.Cond → Bool
  | .code _ _ _ _ => true
  | _ => false
theorem all_split {L : List Jvm.Cond} {P : Jvm.Cond → Bool} (h1 : L.all (fun c => isCode c || P c) = true) (h2 : ∀ c ∈ L.filter isCode, P c = true) : L.all P = true := by
  refine List.all_eq_true.mpr fun c hc => ?_
  have h := List.all_eq_true.mp h1 c hc
  rcases Bool.eq_false_or_eq_true (isCode c) with hi | hi
  · exact h2 c (List.mem_filter.mpr ⟨hc, hi⟩)
  · simpa [hi] using h
set_option maxRecDepth 65536 in
theorem w_c0 : (Jvm.Cond.code x code maxLocals ret).before args0 about1 = true := code_word (m := ⟨1, 1⟩) (meth := k1m1) (c := k1c1) (by decide +kernel) rfl rfl rfl (by decide +kernel)
set_option maxRecDepth 65536 in
theorem w_c1 : (Jvm.Cond.code ({ cls := "com/example/herault/herault/index/IndexStatistics", name := "<init>", desc := "(IJI)V" } : Jvm.MethodName) prog_56_method_1_code (5 : Nat) (Option.none : Option Jvm.ClassFile.FieldType)).before args0 about1 = true := code_word (m := ⟨3, 0⟩) (meth := k3m0) (c := k3c0) (by decide +kernel) rfl rfl rfl (by decide +kernel)
set_option maxRecDepth 65536 in
theorem w_c2 : (Jvm.Cond.code ({ cls := "java/lang/Record", name := "<init>", desc := "()V" } : Jvm.MethodName) jdk_30_method_1_code (1 : Nat) (Option.none : Option Jvm.ClassFile.FieldType)).before args0 about1 = true := code_word (m := ⟨2, 0⟩) (meth := k2m0) (c := k2c0) (by decide +kernel) rfl rfl rfl (by decide +kernel)
set_option maxRecDepth 65536 in
theorem w_c3 : (Jvm.Cond.code ({ cls := "java/lang/Object", name := "<init>", desc := "()V" } : Jvm.MethodName) object_method_1_code (1 : Nat) (Option.none : Option Jvm.ClassFile.FieldType)).before args0 about1 = true := code_word (m := ⟨0, 0⟩) (meth := k0m0) (c := k0c0) (by decide +kernel) rfl rfl rfl (by decide +kernel)
set_option maxRecDepth 65536 in
theorem w_c4 : (Jvm.Cond.code ({ cls := "com/example/herault/herault/index/IndexStatistics", name := "averageDocumentLength", desc := "()D" } : Jvm.MethodName) prog_56_method_2_code (1 : Nat) (Option.some Jvm.ClassFile.FieldType.double)).before args0 about1 = true := code_word (m := ⟨3, 1⟩) (meth := k3m1) (c := k3c1) (by decide +kernel) rfl rfl rfl (by decide +kernel)
def codes1 : List Jvm.Cond := [Jvm.Cond.code x code maxLocals ret, Jvm.Cond.code ({ cls := "com/example/herault/herault/index/IndexStatistics", name := "<init>", desc := "(IJI)V" } : Jvm.MethodName) prog_56_method_1_code (5 : Nat) (Option.none : Option Jvm.ClassFile.FieldType), Jvm.Cond.code ({ cls := "java/lang/Record", name := "<init>", desc := "()V" } : Jvm.MethodName) jdk_30_method_1_code (1 : Nat) (Option.none : Option Jvm.ClassFile.FieldType), Jvm.Cond.code ({ cls := "java/lang/Object", name := "<init>", desc := "()V" } : Jvm.MethodName) object_method_1_code (1 : Nat) (Option.none : Option Jvm.ClassFile.FieldType), Jvm.Cond.code ({ cls := "com/example/herault/herault/index/IndexStatistics", name := "averageDocumentLength", desc := "()D" } : Jvm.MethodName) prog_56_method_2_code (1 : Nat) (Option.some Jvm.ClassFile.FieldType.double)]
set_option maxRecDepth 65536 in
theorem codes_eq : words1.filter isCode = codes1 := rfl
theorem w_codes : ∀ c ∈ words1.filter isCode, c.before args0 about1 = true := by
  rw [codes_eq]
  intro c hc
  simp only [codes1, List.mem_cons, List.not_mem_nil, or_false] at hc
  rcases hc with rfl | rfl | rfl | rfl | rfl
  · exact w_c0
  · exact w_c1
  · exact w_c2
  · exact w_c3
  · exact w_c4
set_option maxRecDepth 65536 in
theorem w_t1 : (words1.take 24).all (fun c => isCode c || c.before args0 about1) = true := by decide +kernel
set_option maxRecDepth 65536 in
theorem w_t2 : (words1.drop 24).all (fun c => isCode c || c.before args0 about1) = true := by decide +kernel
theorem w_tables : (allAtoms (Jvm.Cond.code x code maxLocals ret :: tables_1)).before args0 about1 = true := by
  rw [allAtoms_all]
  show words1.all (fun c => c.before args0 about1) = true
  refine all_split ?_ w_codes
  rw [← List.take_append_drop 24 words1, List.all_append, w_t1, w_t2]
  rfl
set_option maxRecDepth 65536 in
theorem w_case : (Jvm.Cond.and given_1 narrow_1).before args0 about1 = true := by decide +kernel
theorem w_applies : (headSpec (Jvm.Cond.code x code maxLocals ret :: tables_1) room_1).applies x e0.platform about1 = true :=
  (Spec.applies_iff w_frames).mpr ⟨w_running, w_runnable, w_alone, w_named, w_hears, w_ripe, w_room, w_tables⟩
theorem atStart : AtStart classFile x code maxLocals ret World_1 tables_1 room_1 Calls_1 rest_1 Pre_1 launch0 p0 e0 about1 theMethod args0 below0 :=
  ⟨lists_1, trivial, launch0.admits_env _ _ _, launch0.least_env, fairChoices_fair.cas, fairChoices_fair.clock, w_frames, w_args, w_heap, w_applies, trivial, trivial, w_case⟩
end start1
theorem witness_1 : WitnessClaimed_1 := ⟨start1.p0, start1.e0, start1.about1, start1.theMethod, start1.args0, start1.below0, start1.atStart⟩
end Jvm.Pilot.@@N@@
