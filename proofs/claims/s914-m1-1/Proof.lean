import JvmDerived
import JvmDerived.Pilot.@@N@@Statement
import JvmDerived.Pilot.@@N@@Code
set_option linter.unusedVariables false
set_option linter.unusedSimpArgs false
namespace Jvm.Pilot.@@N@@
open Jvm Jvm.ClassFile Sem Op Lib Jvm.Free Jvm.Stand Jvm.LawKit Jvm.RoadKit Bundle Jvm.Pilot.@@N@@.Jvm.D
theorem own_k {Z : State} {a0 : Array Value} (hw : ∀ d ∈ tables_1, d.before a0 Z = true) (i : Nat) {d : Jvm.Cond} (h : tables_1[i]? = some d) : d.before a0 Z = true := hw _ (List.mem_of_getElem? h)
section OwnFP
open FP.Core
/-- 2^1074: how many of the least doubles make one -/
def own_P : Nat := 2 ^ (-b64.qmin).toNat
theorem own_P_pos : 0 < own_P := Nat.two_pow_pos _
/-- a datum as a whole number of the least doubles -/
abbrev own_Z (x : Datum) : Int := zval b64 x
/-- x is N / D (in units of the least double), rounded -/
def own_R (N : Int) (D : Nat) (x : Datum) : Prop := 0 < D ∧ ∃ s : Bool, signed s N.natAbs = N ∧ x = roundRatio b64 s N.natAbs D b64.qmin
/-- a finite datum of the format -/
def own_F (x : Datum) : Prop := FP.Core.fits b64 x ∧ ∃ s c q, x = .fin s c q
theorem own_F.ne {x : Datum} (h : own_F x) : x ≠ .nan := by obtain ⟨-, s, c, q, rfl⟩ := h; exact nofun
theorem own_iu (A : Nat) (q : Int) : inUnits A q q = A := by unfold inUnits; simp
theorem own_e0 : 2 ^ (b64.qmin - b64.qmin).toNat = 1 := by simp
theorem own_R.ne {N : Int} {D : Nat} {x : Datum} (h : own_R N D x) : x ≠ .nan := by obtain ⟨-, s, -, rfl⟩ := h; exact roundRatio_ne_nan _ _ _ _ _
theorem own_R.fits {N : Int} {D : Nat} {x : Datum} (h : own_R N D x) : FP.Core.fits b64 x := by obtain ⟨hD, s, -, rfl⟩ := h; exact roundRatio_fits good_b64 _ _ hD _
theorem own_R_le {N : Int} {D : Nat} {x V : Datum} (h : own_R N D x) (hV : FP.Core.fits b64 V) (hn : V ≠ .nan) (hle : N ≤ own_Z V * (D : Int)) : own_Z x ≤ own_Z V := by
  obtain ⟨hD, s, hs, rfl⟩ := h
  have h1 := zmag_roundRatio_le good_b64 (s := s) (A := N.natAbs) (B := D) (e := b64.qmin) (e0 := b64.qmin) hD hV hn (Int.le_refl _) (Int.le_refl _)
  have h2 := zmag_roundRatio_ge good_b64 (s := s) (A := N.natAbs) (B := D) (e := b64.qmin) (e0 := b64.qmin) hD hV (Int.le_refl _) (Int.le_refl _)
  rw [own_iu, own_e0, Nat.mul_one] at h1 h2
  unfold own_Z zval at *
  rw [sgn_roundRatio]
  generalize zmag b64 (roundRatio b64 s N.natAbs D b64.qmin) = r at *
  generalize zmag b64 V = z at *
  have hz : z * D = 0 → z = 0 := by
    intro h
    rcases Nat.mul_eq_zero.mp h with h | h <;> omega
  have ez : (z : Int) * (D : Int) = ((z * D : Nat) : Int) := by push_cast; rfl
  generalize sgn V = t at *
  generalize hk : N.natAbs = k at *
  cases s <;> cases t <;> simp only [signed, if_true, Bool.false_eq_true, if_false, Int.neg_mul] at * <;> rw [ez] at hle <;> generalize z * D = w at *
  · have := h1 (by omega); omega
  · have := h1 (by omega); have := hz (by omega); omega
  · omega
  · have := h2 (by omega); omega
theorem own_R.neg {N : Int} {D : Nat} {x : Datum} (h : own_R N D x) : own_R (-N) D (negate x) := by
  obtain ⟨hD, s, hs, rfl⟩ := h
  refine ⟨hD, !s, ?_, ?_⟩
  · rw [Int.natAbs_neg]
    generalize N.natAbs = k at *
    cases s <;> simp only [signed, if_true, Bool.false_eq_true, if_false, Bool.not_true, Bool.not_false] at * <;> omega
  · rw [Int.natAbs_neg, negate_roundRatio]
theorem own_R_ge {N : Int} {D : Nat} {x V : Datum} (h : own_R N D x) (hV : FP.Core.fits b64 V) (hn : V ≠ .nan) (hle : own_Z V * (D : Int) ≤ N) : own_Z V ≤ own_Z x := by
  have q := own_R_le h.neg (V := negate V) (negate_fits hV) (negate_ne_nan hn) (by unfold own_Z at *; rw [zval_negate, Int.neg_mul]; omega)
  unfold own_Z at *
  rw [zval_negate, zval_negate] at q
  omega
theorem own_mag_mono {s : Bool} {A1 D1 A2 D2 : Nat} (h1 : 0 < D1) (h2 : 0 < D2) {c1 c2 : Nat} {q1 q2 : Int} {s1 s2 : Bool} (hx : roundRatio b64 s A1 D1 b64.qmin = .fin s1 c1 q1) (hy : roundRatio b64 s A2 D2 b64.qmin = .fin s2 c2 q2) (h : A1 * D2 ≤ A2 * D1) :
    zmag b64 (.fin s1 c1 q1) ≤ zmag b64 (.fin s2 c2 q2) := by
  have fx : FP.Core.fits b64 (.fin s1 c1 q1) := hx ▸ roundRatio_fits good_b64 s A1 h1 _
  have fy : FP.Core.fits b64 (.fin s2 c2 q2) := hy ▸ roundRatio_fits good_b64 s A2 h2 _
  have l1 := zmag_roundRatio_le good_b64 (s := s) (A := A1) (B := D1) (e := b64.qmin) (e0 := b64.qmin) h1 fy (by exact nofun) (Int.le_refl _) (Int.le_refl _)
  have l2 := zmag_roundRatio_ge good_b64 (s := s) (A := A2) (B := D2) (e := b64.qmin) (e0 := b64.qmin) h2 fx (Int.le_refl _) (Int.le_refl _)
  have n1 := roundRatio_nearest good_b64 h1 hx fy.1 fy.2.1 (Int.le_refl _) (Int.le_refl _)
  have n2 := roundRatio_nearest good_b64 h2 hy fx.1 fx.2.1 (Int.le_refl _) (Int.le_refl _)
  rw [own_iu, own_e0, Nat.mul_one] at l1 l2
  rw [hx] at l1
  rw [hy] at l2
  unfold distance at n1 n2
  rw [own_iu] at n1 n2
  change zmag b64 (.fin s1 c1 q1) ≤ _
  have ex : inUnits c1 q1 b64.qmin = zmag b64 (.fin s1 c1 q1) := rfl
  have ey : inUnits c2 q2 b64.qmin = zmag b64 (.fin s2 c2 q2) := rfl
  rw [ex, ey] at n1 n2
  rcases Nat.lt_or_ge (zmag b64 (.fin s2 c2 q2)) (zmag b64 (.fin s1 c1 q1)) with hlt | hge
  · exfalso
    have k1 : zmag b64 (.fin s2 c2 q2) * D1 < A1 := Nat.lt_of_not_le fun q => absurd (l1 q) (Nat.not_le.mpr hlt)
    have k2 : A2 < zmag b64 (.fin s1 c1 q1) * D2 := Nat.lt_of_not_le fun q => absurd (l2 q) (Nat.not_le.mpr hlt)
    generalize zmag b64 (.fin s1 c1 q1) = zx at *
    generalize zmag b64 (.fin s2 c2 q2) = zy at *
    -- A1 < zx * D1, zy * D2 < A2
    have k3 : A1 < zx * D1 := by
      have : A1 * D2 < zx * D1 * D2 := Nat.lt_of_le_of_lt h (by
        have := Nat.mul_lt_mul_of_pos_right k2 h1
        calc A2 * D1 < zx * D2 * D1 := this
          _ = zx * D1 * D2 := by rw [Nat.mul_assoc, Nat.mul_comm D2 D1, ← Nat.mul_assoc])
      exact Nat.lt_of_mul_lt_mul_right this
    have k4 : zy * D2 < A2 := by
      have : zy * D2 * D1 < A2 * D1 := Nat.lt_of_lt_of_le (by
        have := Nat.mul_lt_mul_of_pos_right k1 h2
        calc zy * D2 * D1 = zy * D1 * D2 := by rw [Nat.mul_assoc, Nat.mul_comm D2 D1, ← Nat.mul_assoc]
          _ < A1 * D2 := this) h
      exact Nat.lt_of_mul_lt_mul_right this
    have m1 : zx * D1 + zy * D1 ≤ 2 * A1 := by
      have e1 : (zx : Int) * (D1 : Int) = ((zx * D1 : Nat) : Int) := by push_cast; rfl
      have e2 : (zy : Int) * (D1 : Int) = ((zy * D1 : Nat) : Int) := by push_cast; rfl
      rw [e1, e2] at n1
      generalize zx * D1 = u at *
      generalize zy * D1 = v at *
      omega
    have m2 : 2 * A2 ≤ zx * D2 + zy * D2 := by
      have e1 : (zx : Int) * (D2 : Int) = ((zx * D2 : Nat) : Int) := by push_cast; rfl
      have e2 : (zy : Int) * (D2 : Int) = ((zy * D2 : Nat) : Int) := by push_cast; rfl
      rw [e1, e2] at n2
      generalize zx * D2 = u at *
      generalize zy * D2 = v at *
      omega
    have p1 : (zx + zy) * D1 * D2 ≤ 2 * A1 * D2 := Nat.mul_le_mul_right _ (by rw [Nat.add_mul]; exact m1)
    have p2 : 2 * A2 * D1 ≤ (zx + zy) * D2 * D1 := Nat.mul_le_mul_right _ (by rw [Nat.add_mul]; exact m2)
    have p3 : (zx + zy) * D2 * D1 = (zx + zy) * D1 * D2 := by rw [Nat.mul_assoc, Nat.mul_comm D2 D1, ← Nat.mul_assoc]
    have p4 : A2 * D1 ≤ A1 * D2 := by
      have q1 : (zx + zy) * D1 * D2 ≤ 2 * (A1 * D2) := by rw [← Nat.mul_assoc 2]; exact p1
      have q2 : 2 * (A2 * D1) ≤ (zx + zy) * D1 * D2 := by rw [← Nat.mul_assoc 2, ← p3]; exact p2
      generalize (zx + zy) * D1 * D2 = w at *
      generalize A1 * D2 = u at *
      generalize A2 * D1 = v at *
      omega
    have p5 : A1 * D2 = A2 * D1 := Nat.le_antisymm h p4
    have cg := roundRatio_congr (f := b64) (s := s) (A := A1) (B := D1) (A' := A2) (B' := D2) (e := b64.qmin) (e' := b64.qmin) h1 h2 (by rw [own_e0, Nat.mul_one, Nat.mul_one]; exact p5)
    rw [hx, hy] at cg
    cases cg
    omega
  · exact hge
theorem own_R_mono {N1 N2 : Int} {D1 D2 : Nat} {x y : Datum} (hx : own_R N1 D1 x) (hy : own_R N2 D2 y) (fx : ∃ s c q, x = .fin s c q) (fy : ∃ s c q, y = .fin s c q) (h : N1 * (D2 : Int) ≤ N2 * (D1 : Int)) : own_Z x ≤ own_Z y := by
  obtain ⟨h1, s, hs, ex⟩ := hx
  obtain ⟨h2, t, ht, ey⟩ := hy
  obtain ⟨s1, c1, q1, rfl⟩ := fx
  obtain ⟨s2, c2, q2, rfl⟩ := fy
  have g1 : s1 = s := by have := sgn_roundRatio b64 s N1.natAbs D1 b64.qmin; rw [← ex] at this; exact this
  have g2 : s2 = t := by have := sgn_roundRatio b64 t N2.natAbs D2 b64.qmin; rw [← ey] at this; exact this
  subst g1 g2
  unfold own_Z zval
  show signed s1 _ ≤ signed s2 _
  generalize hA : N1.natAbs = A at *
  generalize hB : N2.natAbs = B at *
  have eA : (A : Int) * (D2 : Int) = ((A * D2 : Nat) : Int) := by push_cast; rfl
  have eB : (B : Int) * (D1 : Int) = ((B * D1 : Nat) : Int) := by push_cast; rfl
  cases s1 <;> cases s2 <;> simp only [signed, if_true, Bool.false_eq_true, if_false] at hs ht ⊢ <;> rw [← hs, ← ht] at h <;> (try rw [Int.neg_mul] at h) <;> (try rw [Int.neg_mul] at h) <;> rw [eA, eB] at h
  · have := own_mag_mono h1 h2 ex.symm ey.symm (by omega)
    omega
  · have a0 : A * D2 = 0 := by omega
    have b0 : B * D1 = 0 := by omega
    have a1 : A = 0 := by rcases Nat.mul_eq_zero.mp a0 with q | q <;> omega
    have b1 : B = 0 := by rcases Nat.mul_eq_zero.mp b0 with q | q <;> omega
    subst a1 b1
    have u1 : roundRatio b64 false 0 D1 b64.qmin = .fin false 0 b64.qmin := by simp [roundRatio]
    have u2 : roundRatio b64 true 0 D2 b64.qmin = .fin true 0 b64.qmin := by simp [roundRatio]
    rw [u1] at ex
    rw [u2] at ey
    cases ex
    cases ey
    simp [zmag, inUnits]
  · omega
  · have := own_mag_mono h2 h1 ey.symm ex.symm (by omega)
    omega
/-- the four operations and the conversions are roundings -/
theorem own_R_of {x : Datum} (h : own_F x) : own_R (own_Z x) 1 x := by
  obtain ⟨hf, s, c, q, rfl⟩ := h
  refine ⟨Nat.one_pos, s, ?_, ?_⟩
  · show signed s (signed s _).natAbs = signed s _
    rw [natAbs_signed]
  · have e1 : (own_Z (.fin s c q)).natAbs = inUnits c q b64.qmin := natAbs_signed _ _
    rw [e1]
    have r := round_of_fits good_b64 hf
    have cg := roundRatio_congr (f := b64) (s := s) (A := c) (B := 1) (A' := inUnits c q b64.qmin) (B' := 1) (e := q) (e' := b64.qmin) Nat.one_pos Nat.one_pos (by
      have hq := hf.2.1
      unfold inUnits
      rw [show (b64.qmin - q).toNat = 0 by omega]
      simp)
    rw [← cg]
    exact r.symm
theorem own_round_R {s : Bool} {n : Nat} {e : Int} (he : b64.qmin ≤ e) : own_R (signed s (inUnits n e b64.qmin)) 1 (round b64 (.fin s n e)) := by
  refine ⟨Nat.one_pos, s, ?_, ?_⟩
  · rw [natAbs_signed]
  · rw [natAbs_signed]
    refine roundRatio_congr (f := b64) Nat.one_pos Nat.one_pos ?_
    unfold inUnits
    rw [show (b64.qmin - e).toNat = 0 by omega]
    simp
theorem own_add {a b : UInt64} (ha : own_F (val64 a)) (hb : own_F (val64 b)) : own_R (own_Z (val64 a) + own_Z (val64 b)) 1 (val64 (FP.dadd a b)) := by
  obtain ⟨fa, s, c, q, ea⟩ := ha
  obtain ⟨fb, t, d, r, eb⟩ := hb
  show own_R _ 1 (val64 (dadd a b))
  rw [val64_dadd, ea, eb]
  rw [ea] at fa
  rw [eb] at fb
  obtain ⟨sg, n, e, h1, h2, h3⟩ := sum_units fa fb
  rw [h1, ← h3]
  exact own_round_R h2
theorem own_mul {a b : UInt64} (ha : own_F (val64 a)) (hb : own_F (val64 b)) : own_R (own_Z (val64 a) * own_Z (val64 b)) own_P (val64 (FP.dmul a b)) := by
  obtain ⟨fa, s, c, q, ea⟩ := ha
  obtain ⟨fb, t, d, r, eb⟩ := hb
  show own_R _ _ (val64 (dmul a b))
  rw [val64_dmul, ea, eb]
  rw [ea] at fa
  rw [eb] at fb
  obtain ⟨h1, h2, h3⟩ := product_units fa fb
  rw [h1]
  have e1 : own_Z (.fin s c q) * own_Z (.fin t d r) = signed (s != t) (zmag b64 (.fin s c q) * zmag b64 (.fin t d r)) := (signed_xor _ _ _ _).symm
  rw [e1]
  refine ⟨own_P_pos, s != t, ?_, ?_⟩
  · rw [natAbs_signed]
  · rw [natAbs_signed, ← h3]
    refine roundRatio_congr (f := b64) Nat.one_pos own_P_pos ?_
    have g1 := fa.2.1
    have g2 := fb.2.1
    have g0 := qmin_neg good_b64
    unfold inUnits own_P
    generalize b64.qmin = Q at *
    rw [Nat.mul_one]
    simp only [Nat.mul_assoc, ← Nat.pow_add]
    congr 3
    omega
theorem own_div {a b : UInt64} (ha : own_F (val64 a)) (hb : own_F (val64 b)) (hz : 0 < own_Z (val64 b)) : own_R (own_Z (val64 a) * (own_P : Int)) (own_Z (val64 b)).natAbs (val64 (FP.ddiv a b)) := by
  obtain ⟨fa, s, c, q, ea⟩ := ha
  obtain ⟨fb, t, d, r, eb⟩ := hb
  show own_R _ _ (val64 (ddiv a b))
  rw [val64_ddiv, ea, eb]
  rw [ea] at fa
  rw [eb] at fb hz
  have hd : d ≠ 0 := by
    rintro rfl
    have : own_Z (.fin t 0 r) = 0 := by show signed t (inUnits 0 r _) = 0; unfold inUnits; rw [Nat.zero_mul]; exact signed_zero t
    omega
  have ht : t = false := by
    cases t
    · rfl
    · exfalso
      have : own_Z (.fin true d r) = -((inUnits d r b64.qmin : Nat) : Int) := rfl
      omega
  subst ht
  have zb : (own_Z (.fin false d r)).natAbs = inUnits d r b64.qmin := natAbs_signed _ _
  have zp : 0 < inUnits d r b64.qmin := by omega
  rw [zb]
  have e1 : own_Z (.fin s c q) * (own_P : Int) = signed s (inUnits c q b64.qmin * own_P) := (signed_mul _ _ _).symm
  rw [e1]
  refine ⟨zp, s, ?_, ?_⟩
  · rw [natAbs_signed]
  · rw [natAbs_signed]
    show (if d = 0 then _ else roundRatio b64 (s != false) c d (q - r)) = _
    rw [if_neg hd, Bool.bne_false]
    refine roundRatio_congr (f := b64) (Nat.pos_of_ne_zero hd) zp ?_
    have g1 := fa.2.1
    have g2 := fb.2.1
    have g0 := qmin_neg good_b64
    unfold inUnits own_P
    generalize b64.qmin = Q at *
    have w : c * (d * 2 ^ (r - Q).toNat) * 2 ^ (q - r - Q).toNat = c * d * 2 ^ ((r - Q).toNat + (q - r - Q).toNat) := by rw [Nat.pow_add]; ac_rfl
    have v : c * 2 ^ (q - Q).toNat * 2 ^ (-Q).toNat * d * 2 ^ (Q - (q - r)).toNat = c * d * 2 ^ ((q - Q).toNat + (-Q).toNat + (Q - (q - r)).toNat) := by rw [Nat.pow_add, Nat.pow_add]; ac_rfl
    rw [w, v]
    congr 2
    omega
theorem own_ofInt (i : Int) : own_R (i * (own_P : Int)) 1 (round b64 (ofInt i)) := by
  have h : i * (own_P : Int) = signed (decide (i < 0)) (inUnits i.natAbs 0 b64.qmin) := by
    unfold inUnits own_P
    rw [signed_mul]
    have g : signed (decide (i < 0)) i.natAbs = i := by unfold signed; by_cases q : i < 0 <;> simp [q] <;> omega
    rw [g, show (0 - b64.qmin) = -b64.qmin by omega]
  rw [h]
  exact own_round_R (by have := qmin_neg good_b64; omega)
theorem own_l2d (v : Int64) : own_R (v.toInt * (own_P : Int)) 1 (val64 (FP.l2d v)) := by
  show own_R _ 1 (val64 (l2d v)); rw [val64_l2d]; exact own_ofInt _
theorem own_i2d (v : Int32) : own_R (v.toInt * (own_P : Int)) 1 (val64 (FP.i2d v)) := by
  show own_R _ 1 (val64 (i2d v)); rw [val64_i2d]; exact own_ofInt _
/-- a number of at most 53 digits is a double -/
theorem own_rep (s : Bool) {c : Nat} {q : Int} (hc : c < 2 ^ 53) (h1 : b64.qmin ≤ q) (h2 : q ≤ b64.qmax) : ∃ V, own_F V ∧ own_Z V = signed s (inUnits c q b64.qmin) := by
  obtain ⟨c', q', h3, h4⟩ := round_exact good_b64 s (c := c) hc h1 h2
  refine ⟨round b64 (.fin s c q), ⟨round_fits good_b64 _, s, c', q', h3⟩, ?_⟩
  rw [h3, ← h4]
  rfl
theorem own_R_eq {N : Int} {D : Nat} {x V : Datum} (h : own_R N D x) (hV : own_F V) (he : N = own_Z V * (D : Int)) : own_Z x = own_Z V :=
  Int.le_antisymm (own_R_le h hV.1 hV.ne (by omega)) (own_R_ge h hV.1 hV.ne (by omega))
theorem own_cmpZ {a b : UInt64} (ha : val64 a ≠ .nan) (hb : val64 b ≠ .nan) : FP.dcmp a b = some (compare (own_Z (val64 a)) (own_Z (val64 b))) :=
  order_zval good_b64 (val64_fits a) (val64_fits b) ha hb
/-- finite, by its bits -/
theorem own_F_of {a : UInt64} (h : Jvm.Free.Fl.Fin64 a) : own_F (val64 a) := ⟨val64_fits a, Jvm.Free.Fl.fin64_core.mp h⟩
theorem own_nn {a : UInt64} (h : val64 a ≠ .nan) : Jvm.Free.Fl.NoNaN64 a := by
  rw [Jvm.Free.Fl.noNaN64_no, notNaN_iff]; exact h
/-- a rounding that stays below a finite number in size is finite -/
theorem own_fin {N : Int} {D : Nat} {a : UInt64} {V : Datum} (h : own_R N D (val64 a)) (hV : own_F V) (h1 : -own_Z V * (D : Int) ≤ N) (h2 : N ≤ own_Z V * (D : Int)) : own_F (val64 a) := by
  refine ⟨val64_fits a, ?_⟩
  have l := own_R_le h hV.1 hV.ne h2
  have g := own_R_ge h (V := negate V) (negate_fits hV.1) (negate_ne_nan hV.ne) (by unfold own_Z at *; rw [zval_negate]; exact h1)
  have n := h.ne
  have lt : own_Z V < (b64.tails * 2 ^ (b64.exps - 2) : Nat) ∧ -own_Z V < (b64.tails * 2 ^ (b64.exps - 2) : Nat) := by
    obtain ⟨hf, s, c, q, rfl⟩ := hV
    have := zmag_lt_top good_b64 hf
    unfold own_Z zval
    have this : inUnits c q b64.qmin < b64.tails * 2 ^ (b64.exps - 2) := this
    show signed s (inUnits c q b64.qmin) < _ ∧ -signed s (inUnits c q b64.qmin) < _
    generalize inUnits c q b64.qmin = z at *
    generalize b64.tails * 2 ^ (b64.exps - 2) = t at *
    cases s <;> simp only [signed, if_true, Bool.false_eq_true, if_false] <;> omega
  unfold own_Z at *
  rw [zval_negate] at g
  cases hx : val64 a with
  | nan => exact absurd hx n
  | fin s c q => exact ⟨s, c, q, rfl⟩
  | inf s =>
    exfalso
    rw [hx] at l g
    have e : zval b64 (.inf s) = signed s (b64.tails * 2 ^ (b64.exps - 2)) := rfl
    rw [e] at l g
    generalize b64.tails * 2 ^ (b64.exps - 2) = t at *
    cases s <;> simp only [signed, if_true, Bool.false_eq_true, if_false] at * <;> omega
end OwnFP
section OwnHigher
open FP.Core
theorem own_pw {q r : Int} (h1 : b64.qmin ≤ r) (h2 : r ≤ q) : 2 ^ (q - b64.qmin).toNat = 2 ^ (r - b64.qmin).toNat * 2 ^ (q - r).toNat := by
  rw [← Nat.pow_add]; congr 1; omega
/-- 2^982: the unit of the tolerance's last digit -/
def own_B : Nat := 2 ^ (-92 - b64.qmin).toNat
theorem own_B_pos : 0 < own_B := Nat.two_pow_pos _
theorem own_u92 (c : Nat) : inUnits c (-92) b64.qmin = c * own_B := rfl
theorem own_u52 (c : Nat) : inUnits c (-52) b64.qmin = c * (own_B * 2 ^ 40) := by
  unfold inUnits own_B; rw [own_pw (q := -52) (r := -92) (by decide) (by decide), show ((-52 : Int) - (-92)).toNat = 40 from by decide]
theorem own_u48 (c : Nat) : inUnits c (-48) b64.qmin = c * (own_B * 2 ^ 44) := by
  unfold inUnits own_B; rw [own_pw (q := -48) (r := -92) (by decide) (by decide), show ((-48 : Int) - (-92)).toNat = 44 from by decide]
theorem own_u0 (c : Nat) : inUnits c 0 b64.qmin = c * own_P := by
  unfold inUnits own_P; rw [show (0 - b64.qmin) = -b64.qmin by omega]
theorem own_P_B : own_P = own_B * 2 ^ 92 := by
  have h := own_pw (q := 0) (r := -92) (by decide) (by decide)
  unfold own_P own_B
  rw [show (-b64.qmin) = 0 - b64.qmin by omega, h, show ((0 : Int) - (-92)).toNat = 92 from by decide]
theorem own_sgn (i : Int) : signed (decide (i < 0)) i.natAbs = i := by unfold signed; by_cases q : i < 0 <;> simp [q] <;> omega
/-- i * (2^982 * 2^k) is a double -/
theorem own_rep' {i : Int} (h : i.natAbs < 2 ^ 53) {q : Int} {u : Nat} (h1 : b64.qmin ≤ q) (h2 : q ≤ b64.qmax) (hu : ∀ c, inUnits c q b64.qmin = c * u) : ∃ V, own_F V ∧ own_Z V = i * (u : Int) := by
  obtain ⟨V, hV, hz⟩ := own_rep (decide (i < 0)) (c := i.natAbs) (q := q) h h1 h2
  refine ⟨V, hV, ?_⟩
  rw [hz, hu, signed_mul, own_sgn]
abbrev own_S : Int64 := 281474976710656
theorem own_l2dZ {v : Int64} (h : v.toInt.natAbs < 2 ^ 53) : own_Z (val64 (FP.l2d v)) = v.toInt * (own_P : Int) := by
  obtain ⟨V, hV, hz⟩ := own_rep' (i := v.toInt) h (q := 0) (by decide) (by decide) own_u0
  rw [own_R_eq (own_l2d v) hV (by rw [hz]; simp), hz]
theorem own_quo {v : Int64} (h : v.toInt.natAbs < 2 ^ 53) : own_F (val64 (FP.ddiv (FP.l2d v) (FP.l2d own_S))) ∧ own_Z (val64 (FP.ddiv (FP.l2d v) (FP.l2d own_S))) = v.toInt * ((own_B * 2 ^ 44 : Nat) : Int) := by
  have zs : own_Z (val64 (FP.l2d own_S)) = (281474976710656 : Int) * (own_P : Int) := own_l2dZ (v := own_S) (by decide)
  have zv := own_l2dZ h
  have pp := own_P_pos
  have hd := own_div (own_F_of (Jvm.Free.Fl.l2d_fin v)) (own_F_of (Jvm.Free.Fl.l2d_fin own_S)) (by rw [zs]; omega)
  have ed : ((own_Z (val64 (FP.l2d own_S))).natAbs : Int) = 281474976710656 * (own_P : Int) := by rw [zs]; omega
  have key : ∀ i : Int, i * (own_P : Int) * (own_P : Int) = i * ((own_B * 2 ^ 44 : Nat) : Int) * (281474976710656 * (own_P : Int)) := by
    intro i
    have e : (own_P : Int) = ((own_B * 2 ^ 44 : Nat) : Int) * 281474976710656 := by
      have e92 : ((2 ^ 92 : Nat) : Int) = ((2 ^ 44 : Nat) : Int) * 281474976710656 := by decide
      rw [own_P_B, Int.natCast_mul, Int.natCast_mul, e92, Int.mul_assoc]
    obtain ⟨w, hw⟩ : ∃ w : Int, w = ((own_B * 2 ^ 44 : Nat) : Int) := ⟨_, rfl⟩
    rw [← hw] at e ⊢
    calc i * (own_P : Int) * (own_P : Int) = i * (w * 281474976710656) * (own_P : Int) := by rw [← e]
      _ = i * w * (281474976710656 * (own_P : Int)) := by simp only [Int.mul_assoc]
  obtain ⟨V, hV, hz⟩ := own_rep' (i := v.toInt) h (q := -48) (by decide) (by decide) own_u48
  obtain ⟨W, hW, hy⟩ := own_rep' (i := (v.toInt.natAbs : Int)) (by simpa using h) (q := -48) (by decide) (by decide) own_u48
  refine ⟨own_fin hd hW ?_ ?_, ?_⟩
  · rw [ed, hy, zv, Int.neg_mul, ← key, ← Int.neg_mul, ← Int.neg_mul]
    exact Int.mul_le_mul_of_nonneg_right (Int.mul_le_mul_of_nonneg_right (by omega) (by omega)) (by omega)
  · rw [ed, hy, zv, ← key]
    exact Int.mul_le_mul_of_nonneg_right (Int.mul_le_mul_of_nonneg_right (by omega) (by omega)) (by omega)
  · rw [own_R_eq hd hV (by rw [ed, hz, zv]; exact key _), hz]
abbrev own_Q : UInt64 := 4427486594234968593
theorem own_Qfin : Jvm.Free.Fl.Fin64 own_Q := by unfold Jvm.Free.Fl.Fin64 own_Q; decide
theorem own_Qv : val64 own_Q = .fin false 4951760157141521 (-92) := by decide +kernel
theorem own_QZ : own_Z (val64 own_Q) = 4951760157141521 * (own_B : Int) := by
  rw [own_Qv]
  show signed false (inUnits 4951760157141521 (-92) b64.qmin) = _
  rw [own_u92]; simp [signed]
theorem own_cmpP {x y : Int} : (0 : Int32) < cmpValue (some (compare x y)) .l ↔ y < x := by
  rcases Int.lt_trichotomy x y with h | h | h
  · rw [show compare x y = .lt from by simp [compare, compareOfLessAndEq, h]]
    constructor
    · intro q; exact absurd q (by decide)
    · intro q; omega
  · subst h
    rw [show compare x x = .eq from compare_self_int x]
    constructor
    · intro q; exact absurd q (by decide)
    · intro q; omega
  · rw [show compare x y = .gt from by simp [compare, compareOfLessAndEq, show ¬ x < y by omega, show ¬ x = y by omega]]
    constructor
    · intro _; exact h
    · intro _; decide
theorem own_higher {m d : Int64} (hm : -281474976710656 ≤ m.toInt ∧ m.toInt ≤ 281474976710656) (hd : -281474976710656 ≤ d.toInt ∧ d.toInt ≤ 281474976710656) :
    (0 : Int32) < cmpValue (FP.dcmp (FP.ddiv (FP.l2d (m + d)) (FP.l2d own_S)) (FP.dadd (FP.ddiv (FP.l2d m) (FP.l2d own_S)) own_Q)) .l ↔ 282 ≤ d.toInt := by
  have es : (m + d).toInt = m.toInt + d.toInt := by have c := c_ladd m d; have r := rng64 (m + d); omega
  obtain ⟨f1, z1⟩ := own_quo (v := m) (by omega)
  obtain ⟨f2, z2⟩ := own_quo (v := m + d) (by rw [es]; omega)
  have hs := own_add f1 (own_F_of own_Qfin)
  rw [z1, own_QZ] at hs
  rw [own_cmpZ f2.ne hs.ne, own_cmpP, z2, es]
  have bp := own_B_pos
  have e44 : ((own_B * 2 ^ 44 : Nat) : Int) = 17592186044416 * (own_B : Int) := by rw [Int.natCast_mul, show ((2 ^ 44 : Nat) : Int) = 17592186044416 from by decide, Int.mul_comm]
  have e40 : ((own_B * 2 ^ 40 : Nat) : Int) = 1099511627776 * (own_B : Int) := by rw [Int.natCast_mul, show ((2 ^ 40 : Nat) : Int) = 1099511627776 from by decide, Int.mul_comm]
  rw [e44] at hs ⊢
  have hB : (0 : Int) ≤ (own_B : Int) := by omega
  have hB' : (0 : Int) < (own_B : Int) := by omega
  constructor
  · intro hlt
    rcases Int.lt_or_le d.toInt 282 with q | q
    · exfalso
      obtain ⟨V, hV, hz⟩ := own_rep' (i := m.toInt + 281) (by omega) (q := -48) (by decide) (by decide) own_u48
      have g := own_R_ge hs hV.1 hV.ne (by
        rw [hz, e44]
        simp only [← Int.mul_assoc, ← Int.add_mul, Int.mul_one]
        have w : (m.toInt + 281) * 17592186044416 ≤ m.toInt * 17592186044416 + 4951760157141521 := by omega
        calc (m.toInt + 281) * 17592186044416 * (own_B : Int) * ((1 : Nat) : Int) = (m.toInt + 281) * 17592186044416 * (own_B : Int) := by simp
          _ ≤ (m.toInt * 17592186044416 + 4951760157141521) * (own_B : Int) := Int.mul_le_mul_of_nonneg_right w hB)
      rw [hz, e44] at g
      have w : (m.toInt + d.toInt) * (17592186044416 * (own_B : Int)) ≤ (m.toInt + 281) * (17592186044416 * (own_B : Int)) := Int.mul_le_mul_of_nonneg_right (by omega) (by omega)
      omega
    · exact q
  · intro q
    obtain ⟨V, hV, hz⟩ := own_rep' (i := 16 * m.toInt + 4511) (by omega) (q := -52) (by decide) (by decide) own_u52
    have l := own_R_le hs hV.1 hV.ne (by
      rw [hz, e40]
      simp only [← Int.mul_assoc, ← Int.add_mul]
      have w : m.toInt * 17592186044416 + 4951760157141521 ≤ (16 * m.toInt + 4511) * 1099511627776 := by omega
      calc (m.toInt * 17592186044416 + 4951760157141521) * (own_B : Int) ≤ (16 * m.toInt + 4511) * 1099511627776 * (own_B : Int) := Int.mul_le_mul_of_nonneg_right w hB
        _ = (16 * m.toInt + 4511) * 1099511627776 * (own_B : Int) * ((1 : Nat) : Int) := by simp)
    rw [hz, e40] at l
    have w : (16 * m.toInt + 4511) * 1099511627776 * (own_B : Int) < (m.toInt + d.toInt) * 17592186044416 * (own_B : Int) := Int.mul_lt_mul_of_pos_right (by omega) hB'
    simp only [← Int.mul_assoc] at l ⊢
    omega
theorem own_Snz : Jvm.Free.Fl.Nz64 (FP.l2d own_S) := by unfold Jvm.Free.Fl.Nz64; decide +kernel
theorem own_nnq (v : Int64) : Jvm.Free.Fl.NoNaN64 (FP.ddiv (FP.l2d v) (FP.l2d own_S)) := Jvm.Free.Fl.ddiv_out (Jvm.Free.Fl.l2d_fin v).noNaN (Jvm.Free.Fl.l2d_fin own_S) own_Snz
theorem own_nns (v : Int64) : Jvm.Free.Fl.NoNaN64 (FP.dadd (FP.ddiv (FP.l2d v) (FP.l2d own_S)) own_Q) := Jvm.Free.Fl.dadd_out (own_nnq v) own_Qfin
theorem own_rem {x y : Int64} {k : Int} (hy : y.toInt = k) (hk : 0 < k) (hk2 : k ≤ 281474976710657) : -281474976710656 ≤ (x - x / y * y).toInt ∧ (x - x / y * y).toInt ≤ 281474976710656 := by
  have r := c_lrem x y k hy
  have m1 := Int.emod_nonneg x.toInt (show k ≠ 0 by omega)
  have m2 := Int.emod_lt_of_pos x.toInt hk
  have m3 := Int.emod_nonneg (-x.toInt) (show k ≠ 0 by omega)
  have m4 := Int.emod_lt_of_pos (-x.toInt) hk
  rcases Int.lt_or_le x.toInt 0 with q | q
  · have := r.2 q; omega
  · have := r.1 q; omega
end OwnHigher
theorem own_pn_0 : plainName "com/example/topics_into_queries/topicsintoqueries/SphericalKMeans" = true := by first | (simp [plainName, overriddenIn]; done) | decide +kernel
theorem d1_0 : decode prog_18_method_3_code 0 = .ok (.dload_n 0, 1) := by decide +kernel
theorem d1_1 : decode prog_18_method_3_code 1 = .ok (.dload_n 2, 1) := by decide +kernel
theorem d1_2 : decode prog_18_method_3_code 2 = .ok (.ldc2_w 119, 3) := by decide +kernel
theorem d1_5 : decode prog_18_method_3_code 5 = .ok (.dadd, 1) := by decide +kernel
theorem d1_6 : decode prog_18_method_3_code 6 = .ok (.dcmp .l, 1) := by decide +kernel
theorem d1_7 : decode prog_18_method_3_code 7 = .ok (.ifCond .le 7, 3) := by decide +kernel
theorem d1_10 : decode prog_18_method_3_code 10 = .ok (.iconst 1, 1) := by decide +kernel
theorem d1_11 : decode prog_18_method_3_code 11 = .ok (.goto 4, 3) := by decide +kernel
theorem d1_15 : decode prog_18_method_3_code 15 = .ok (.ireturn, 1) := by decide +kernel
theorem d1_14 : decode prog_18_method_3_code 14 = .ok (.iconst 0, 1) := by decide +kernel
theorem ef_hi (m : MethodId) (d1 : UInt64) (d3 : UInt64) : entryFrame m #[(.double d1), (.double d3)] 4 = mkF m 0 #[.val (.double d1), .second, .val (.double d3), .second] [] := by first | (simp [entryFrame, mkF, argsToLocals, Value.category]; done) | rfl
def Qhi (Z : State) (d1 : UInt64) (d3 : UInt64) (h0 : Heap) (n0 : Nat) (v : Option Value) (h : Heap) (L : List Loc) : Prop := Fr n0 L ∧ h = h0 ∧ ((v = some (.int (1 : Int32)) ∧ (0 : Int32) < (cmpValue (FP.dcmp d1 (FP.dadd d3 (4427486594234968593 : UInt64))) .l)) ∨ (v = some (.int (0 : Int32)) ∧ ¬ ((0 : Int32) < (cmpValue (FP.dcmp d1 (FP.dadd d3 (4427486594234968593 : UInt64))) .l))))
set_option maxRecDepth 65536 in
set_option maxHeartbeats 40000000 in
theorem rmHi (l : Launch) (Z : State) (a0 : Array Value) (hw : ∀ d ∈ tables_1, d.before a0 Z = true) (ws : List Jvm.Cond) (d1 : UInt64) (d3 : UInt64) (h0 : Heap) (n0 : Nat) (Z0 : n0 ≤ h0.size) (hn : Jvm.Free.Fl.NoNaN64 (FP.dadd d3 (4427486594234968593 : UInt64))) :
    MetFree l (⟨"com/example/topics_into_queries/topicsintoqueries/SphericalKMeans", "higher", "(DD)Z"⟩ : MethodName) (head1 (Jvm.Cond.code (⟨"com/example/topics_into_queries/topicsintoqueries/SphericalKMeans", "higher", "(DD)Z"⟩ : MethodName) prog_18_method_3_code 4 (some .boolean) :: ws) ({ frames := 0, cells := 0, slots := 0, locals := 0 } : Room)) (fun a U => a = #[(.double d1), (.double d3)] ∧ Z.Warmed39 U.vm ∧ U.heap = h0) (fun _ _ _ _ _ => True) (fun _ U o U' => ∃ v L, o = .returned v ∧ Qhi Z d1 d3 h0 n0 v U'.heap L ∧ FrameEnd U o U' L ({ frames := 0, cells := 0, slots := 0, locals := 0 } : Room).cells ({ frames := 0, cells := 0, slots := 0, locals := 0 } : Room).slots) := by
  refine MetFree.of_bodySF (plainFor_of_name own_pn_0) hisR ?_
  intro p e s m args below meth c s₁ Bd hml0 hP hK
  obtain ⟨rfl, hZ, hh⟩ := hP
  have hx := Bd.exec
  have hby := Bd.bytes
  have hml : c.maxLocals = 4 := hml0
  have hown : s.vm.findClass "com/example/topics_into_queries/topicsintoqueries/SphericalKMeans" = some m.cls := findClass_of_methodNamed Bd.named
  have hnm := (name_of_methodNamed Bd.named Bd.method).1
  have X0 : Stand p l e ({ frames := 0, cells := 0, slots := 0, locals := 0 } : Room) s m #[(.double d1), (.double d3)] below meth c s₁ [] 0 0 := Stand.of_body Bd
  have e0 : s₁.heap = h0 := by rw [← hh, Bd.state]; rfl
  have N0 := Fr.nil n0
  have pre0 : ∀ t, Steps p.tables e below (s₁.setTop (mkF m 0 #[.val (.double d1), .second, .val (.double d3), .second] [])) t → Steps p.tables e below (s₁.setTop (entryFrame m #[(.double d1), (.double d3)] 4)) t := fun t k => castTop (ef_hi m d1 d3) k
  have pre1 : ∀ t, Steps p.tables e below (s₁.setTop (mkF m 7 #[.val (.double d1), .second, .val (.double d3), .second] [(.int (cmpValue (FP.dcmp d1 (FP.dadd d3 (4427486594234968593 : UInt64))) .l))])) t → Steps p.tables e below (s₁.setTop (entryFrame m #[(.double d1), (.double d3)] 4)) t := fun t kt => pre0 t (by
    show Steps p.tables e below (s₁.setTop (mkF m 0 #[.val (.double d1), .second, .val (.double d3), .second] [])) _
    refine XS.dloadN X0.here hx rfl (hb hby d1_0) rfl ?_
    show Steps p.tables e below (s₁.setTop (mkF m 1 #[.val (.double d1), .second, .val (.double d3), .second] [(.double d1)])) _
    refine XS.dloadN X0.here hx rfl (hb hby d1_1) rfl ?_
    show Steps p.tables e below (s₁.setTop (mkF m 2 #[.val (.double d1), .second, .val (.double d3), .second] [(.double d3), (.double d1)])) _
    refine X0.ldc2DoubleC hx hown (mvT hZ (own_k hw 6 rfl)) (g := (mkF m 2 #[.val (.double d1), .second, .val (.double d3), .second] [(.double d3), (.double d1)])) rfl (hb hby d1_2) _ ?_
    show Steps p.tables e below (s₁.setTop (mkF m 5 #[.val (.double d1), .second, .val (.double d3), .second] [(.double (4427486594234968593 : UInt64)), (.double d3), (.double d1)])) _
    refine XS.daddS X0.here hx rfl (hb hby d1_5) rfl hn (v := (FP.dadd d3 (4427486594234968593 : UInt64))) rfl ?_
    show Steps p.tables e below (s₁.setTop (mkF m 6 #[.val (.double d1), .second, .val (.double d3), .second] [(.double (FP.dadd d3 (4427486594234968593 : UInt64))), (.double d1)])) _
    refine XS.dcmpS X0.here hx rfl (hb hby d1_6) rfl (v := (cmpValue (FP.dcmp d1 (FP.dadd d3 (4427486594234968593 : UInt64))) .l)) rfl ?_
    exact kt)
  by_cases hc2 : (0 : Int32) < (cmpValue (FP.dcmp d1 (FP.dadd d3 (4427486594234968593 : UInt64))) .l)
  · skip
    obtain ⟨fs, hr, hrun, hended, hW, hsame⟩ := X0.leave (v := (some (.int (1 : Int32)))) (fun h => by rw [Bd.returns] at h; cases h)
    refine ⟨_, _, pre1 _ ?_, hrun, hended, _, _, rfl, ?_, ⟨_, rfl⟩, hW, hsame.mono (by decide) (by decide)⟩
    · show Steps p.tables e below (s₁.setTop (mkF m 7 #[.val (.double d1), .second, .val (.double d3), .second] [(.int (cmpValue (FP.dcmp d1 (FP.dadd d3 (4427486594234968593 : UInt64))) .l))])) _
      refine XS.ifNo X0.here hx rfl (hb hby d1_7) rfl ((if0 _ _).trans (tlt hc2).2.2.2) ?_
      show Steps p.tables e below (s₁.setTop (mkF m 10 #[.val (.double d1), .second, .val (.double d3), .second] [])) _
      refine XS.iconst X0.here hx rfl (hb hby d1_10) ?_
      show Steps p.tables e below (s₁.setTop (mkF m 11 #[.val (.double d1), .second, .val (.double d3), .second] [(.int (1 : Int32))])) _
      refine XS.goto X0.here hx rfl (pc0 := 11) (pc' := 15) rfl (hb hby d1_11) (by decide) (by decide) ?_
      show Steps p.tables e below (s₁.setTop (mkF m 15 #[.val (.double d1), .second, .val (.double d3), .second] [(.int (1 : Int32))])) _
      exact retN X0 hx (t := .boolean) Bd.returns (by simp) (hb hby d1_15) hr
    · show Qhi Z d1 d3 h0 n0 _ s₁.heap _
      rw [e0]
      exact ⟨N0, rfl, (Or.inl ⟨rfl, hc2⟩)⟩
  · skip
    obtain ⟨fs, hr, hrun, hended, hW, hsame⟩ := X0.leave (v := (some (.int (0 : Int32)))) (fun h => by rw [Bd.returns] at h; cases h)
    refine ⟨_, _, pre1 _ ?_, hrun, hended, _, _, rfl, ?_, ⟨_, rfl⟩, hW, hsame.mono (by decide) (by decide)⟩
    · show Steps p.tables e below (s₁.setTop (mkF m 7 #[.val (.double d1), .second, .val (.double d3), .second] [(.int (cmpValue (FP.dcmp d1 (FP.dadd d3 (4427486594234968593 : UInt64))) .l))])) _
      refine XS.ifYes X0.here hx rfl (pc0 := 7) (pc' := 14) rfl (hb hby d1_7) rfl ((if0 _ _).trans (flt hc2).2.2.2) (by decide) (by decide) ?_
      show Steps p.tables e below (s₁.setTop (mkF m 14 #[.val (.double d1), .second, .val (.double d3), .second] [])) _
      refine XS.iconst X0.here hx rfl (hb hby d1_14) ?_
      show Steps p.tables e below (s₁.setTop (mkF m 15 #[.val (.double d1), .second, .val (.double d3), .second] [(.int (0 : Int32))])) _
      exact retN X0 hx (t := .boolean) Bd.returns (by simp) (hb hby d1_15) hr
    · show Qhi Z d1 d3 h0 n0 _ s₁.heap _
      rw [e0]
      exact ⟨N0, rfl, (Or.inr ⟨rfl, hc2⟩)⟩
theorem own_pn_1 : plainName "com/example/topics_into_queries/topicsintoqueries/SphericalKMeansHigherPinLaw" = true := by first | (simp [plainName, overriddenIn]; done) | decide +kernel
theorem own_pd_0 : parseMethodDescriptor "(DD)Z" = some ⟨[.double, .double], some .boolean⟩ := by decide +kernel
theorem ef_0 (m : MethodId) (p0 : Int64) (p1 : Int64) (p2 : Int32) : entryFrame m #[(.long p0), (.long p1), (.int p2)] maxLocals = mkF m 0 #[.val (.long p0), .second, .val (.long p1), .second, .val (.int p2), .unset, .unset, .unset, .unset, .unset, .unset, .unset, .unset, .unset, .unset, .unset, .unset, .unset, .unset, .unset] [] := by first | (simp [entryFrame, mkF, argsToLocals, Value.category, maxLocals]; done) | rfl
def Q0 (Z : State) (p0 : Int64) (p1 : Int64) (p2 : Int32) (h0 : Heap) (n0 : Nat) (v : Option Value) (h : Heap) (L : List Loc) : Prop := Fr n0 L ∧ v = some (.int (1 : Int32))
set_option maxRecDepth 65536 in
set_option maxHeartbeats 40000000 in
theorem rm0 (l : Launch) (Z : State) (a0 : Array Value) (hw : ∀ d ∈ tables_1, d.before a0 Z = true) (ws : List Jvm.Cond) (p0 : Int64) (p1 : Int64) (p2 : Int32) (h0 : Heap) (n0 : Nat) (Z0 : n0 ≤ h0.size)  :
    MetFree l x (head1 (Jvm.Cond.code x code maxLocals ret :: ws) room_1) (fun a U => a = #[(.long p0), (.long p1), (.int p2)] ∧ Z.Warmed39 U.vm ∧ U.heap = h0) (fun _ _ _ _ _ => True) (fun _ U o U' => ∃ v L, o = .returned v ∧ Q0 Z p0 p1 p2 h0 n0 v U'.heap L ∧ FrameEnd U o U' L 0 0) := by
  refine MetFree.of_bodySF (plainFor_of_name own_pn_1) hisR ?_
  intro p e s m args below meth c s₁ Bd hml0 hP hK
  obtain ⟨rfl, hZ, hh⟩ := hP
  have hx := Bd.exec
  have hby := Bd.bytes
  have hml : c.maxLocals = 20 := hml0
  have hown : s.vm.findClass "com/example/topics_into_queries/topicsintoqueries/SphericalKMeansHigherPinLaw" = some m.cls := findClass_of_methodNamed Bd.named
  have hnm := (name_of_methodNamed Bd.named Bd.method).1
  have X0 : Stand p l e room_1 s m #[(.long p0), (.long p1), (.int p2)] below meth c s₁ [] 0 0 := Stand.of_body Bd
  have e0 : s₁.heap = h0 := by rw [← hh, Bd.state]; rfl
  have N0 := Fr.nil n0
  have pre0 : ∀ t, Steps p.tables e below (s₁.setTop (mkF m 0 #[.val (.long p0), .second, .val (.long p1), .second, .val (.int p2), .unset, .unset, .unset, .unset, .unset, .unset, .unset, .unset, .unset, .unset, .unset, .unset, .unset, .unset, .unset] [])) t → Steps p.tables e below (s₁.setTop (entryFrame m #[(.long p0), (.long p1), (.int p2)] maxLocals)) t := fun t k => castTop (ef_0 m p0 p1 p2) k
  have pre1 : ∀ t, Steps p.tables e below (s₁.setTop (mkF m 17 #[.val (.long p0), .second, .val (.long p1), .second, .val (.int p2), .val (.long (281474976710656 : Int64)), .second, .val (.long (p0 - p0 / (281474976710657 : Int64) * (281474976710657 : Int64))), .second, .unset, .unset, .unset, .unset, .unset, .unset, .unset, .unset, .unset, .unset, .unset] [(.int (p2 &&& (1 : Int32)))])) t → Steps p.tables e below (s₁.setTop (entryFrame m #[(.long p0), (.long p1), (.int p2)] maxLocals)) t := fun t kt => pre0 t (by
    show Steps p.tables e below (s₁.setTop (mkF m 0 #[.val (.long p0), .second, .val (.long p1), .second, .val (.int p2), .unset, .unset, .unset, .unset, .unset, .unset, .unset, .unset, .unset, .unset, .unset, .unset, .unset, .unset, .unset] [])) _
    refine X0.ldc2Long hx hown (mvT hZ (own_k hw 0 rfl)) (g := (mkF m 0 #[.val (.long p0), .second, .val (.long p1), .second, .val (.int p2), .unset, .unset, .unset, .unset, .unset, .unset, .unset, .unset, .unset, .unset, .unset, .unset, .unset, .unset, .unset] [])) rfl (hb hby at_0) _ ?_
    show Steps p.tables e below (s₁.setTop (mkF m 3 #[.val (.long p0), .second, .val (.long p1), .second, .val (.int p2), .unset, .unset, .unset, .unset, .unset, .unset, .unset, .unset, .unset, .unset, .unset, .unset, .unset, .unset, .unset] [(.long (281474976710656 : Int64))])) _
    refine XS.lstore X0.here hx rfl (hb hby at_3) rfl (l' := #[.val (.long p0), .second, .val (.long p1), .second, .val (.int p2), .val (.long (281474976710656 : Int64)), .second, .unset, .unset, .unset, .unset, .unset, .unset, .unset, .unset, .unset, .unset, .unset, .unset, .unset]) rfl ?_
    show Steps p.tables e below (s₁.setTop (mkF m 5 #[.val (.long p0), .second, .val (.long p1), .second, .val (.int p2), .val (.long (281474976710656 : Int64)), .second, .unset, .unset, .unset, .unset, .unset, .unset, .unset, .unset, .unset, .unset, .unset, .unset, .unset] [])) _
    refine XS.lloadN X0.here hx rfl (hb hby at_5) rfl ?_
    show Steps p.tables e below (s₁.setTop (mkF m 6 #[.val (.long p0), .second, .val (.long p1), .second, .val (.int p2), .val (.long (281474976710656 : Int64)), .second, .unset, .unset, .unset, .unset, .unset, .unset, .unset, .unset, .unset, .unset, .unset, .unset, .unset] [(.long p0)])) _
    refine XS.lload X0.here hx rfl (hb hby at_6) rfl ?_
    show Steps p.tables e below (s₁.setTop (mkF m 8 #[.val (.long p0), .second, .val (.long p1), .second, .val (.int p2), .val (.long (281474976710656 : Int64)), .second, .unset, .unset, .unset, .unset, .unset, .unset, .unset, .unset, .unset, .unset, .unset, .unset, .unset] [(.long (281474976710656 : Int64)), (.long p0)])) _
    refine XS.lconst X0.here hx rfl (hb hby at_8) ?_
    show Steps p.tables e below (s₁.setTop (mkF m 9 #[.val (.long p0), .second, .val (.long p1), .second, .val (.int p2), .val (.long (281474976710656 : Int64)), .second, .unset, .unset, .unset, .unset, .unset, .unset, .unset, .unset, .unset, .unset, .unset, .unset, .unset] [(.long (1 : Int64)), (.long (281474976710656 : Int64)), (.long p0)])) _
    refine XS.ladd X0.here hx rfl (hb hby at_9) rfl ?_
    show Steps p.tables e below (s₁.setTop (mkF m 10 #[.val (.long p0), .second, .val (.long p1), .second, .val (.int p2), .val (.long (281474976710656 : Int64)), .second, .unset, .unset, .unset, .unset, .unset, .unset, .unset, .unset, .unset, .unset, .unset, .unset, .unset] [(.long (281474976710657 : Int64)), (.long p0)])) _
    refine XS.lrem X0.here hx rfl (hb hby at_10) rfl (by decide) ?_
    show Steps p.tables e below (s₁.setTop (mkF m 11 #[.val (.long p0), .second, .val (.long p1), .second, .val (.int p2), .val (.long (281474976710656 : Int64)), .second, .unset, .unset, .unset, .unset, .unset, .unset, .unset, .unset, .unset, .unset, .unset, .unset, .unset] [(.long (p0 - p0 / (281474976710657 : Int64) * (281474976710657 : Int64)))])) _
    refine XS.lstore X0.here hx rfl (hb hby at_11) rfl (l' := #[.val (.long p0), .second, .val (.long p1), .second, .val (.int p2), .val (.long (281474976710656 : Int64)), .second, .val (.long (p0 - p0 / (281474976710657 : Int64) * (281474976710657 : Int64))), .second, .unset, .unset, .unset, .unset, .unset, .unset, .unset, .unset, .unset, .unset, .unset]) rfl ?_
    show Steps p.tables e below (s₁.setTop (mkF m 13 #[.val (.long p0), .second, .val (.long p1), .second, .val (.int p2), .val (.long (281474976710656 : Int64)), .second, .val (.long (p0 - p0 / (281474976710657 : Int64) * (281474976710657 : Int64))), .second, .unset, .unset, .unset, .unset, .unset, .unset, .unset, .unset, .unset, .unset, .unset] [])) _
    refine XS.iload X0.here hx rfl (hb hby at_13) rfl ?_
    show Steps p.tables e below (s₁.setTop (mkF m 15 #[.val (.long p0), .second, .val (.long p1), .second, .val (.int p2), .val (.long (281474976710656 : Int64)), .second, .val (.long (p0 - p0 / (281474976710657 : Int64) * (281474976710657 : Int64))), .second, .unset, .unset, .unset, .unset, .unset, .unset, .unset, .unset, .unset, .unset, .unset] [(.int p2)])) _
    refine XS.iconst X0.here hx rfl (hb hby at_15) ?_
    show Steps p.tables e below (s₁.setTop (mkF m 16 #[.val (.long p0), .second, .val (.long p1), .second, .val (.int p2), .val (.long (281474976710656 : Int64)), .second, .val (.long (p0 - p0 / (281474976710657 : Int64) * (281474976710657 : Int64))), .second, .unset, .unset, .unset, .unset, .unset, .unset, .unset, .unset, .unset, .unset, .unset] [(.int (1 : Int32)), (.int p2)])) _
    refine XS.iand X0.here hx rfl (hb hby at_16) rfl ?_
    exact kt)
  by_cases hc2 : (p2 &&& (1 : Int32)) = (0 : Int32)
  · skip
    have pre3 : ∀ t, Steps p.tables e below (s₁.setTop (mkF m 68 #[.val (.long p0), .second, .val (.long p1), .second, .val (.int p2), .val (.long (281474976710656 : Int64)), .second, .val (.long (p0 - p0 / (281474976710657 : Int64) * (281474976710657 : Int64))), .second, .val (.long (p1 - p1 / (281474976710656 : Int64) * (281474976710656 : Int64))), .second, .val (.long ((p0 - p0 / (281474976710657 : Int64) * (281474976710657 : Int64)) + (p1 - p1 / (281474976710656 : Int64) * (281474976710656 : Int64)))), .second, .val (.double (FP.l2d (281474976710656 : Int64))), .second, .val (.double (FP.ddiv (FP.l2d (p0 - p0 / (281474976710657 : Int64) * (281474976710657 : Int64))) (FP.l2d (281474976710656 : Int64)))), .second, .val (.double (FP.ddiv (FP.l2d ((p0 - p0 / (281474976710657 : Int64) * (281474976710657 : Int64)) + (p1 - p1 / (281474976710656 : Int64) * (281474976710656 : Int64)))) (FP.l2d (281474976710656 : Int64)))), .second, .unset] [(.int (lcmpW (p1 - p1 / (281474976710656 : Int64) * (281474976710656 : Int64)) (282 : Int64)))])) t → Steps p.tables e below (s₁.setTop (entryFrame m #[(.long p0), (.long p1), (.int p2)] maxLocals)) t := fun t kt => pre1 t (by
      show Steps p.tables e below (s₁.setTop (mkF m 17 #[.val (.long p0), .second, .val (.long p1), .second, .val (.int p2), .val (.long (281474976710656 : Int64)), .second, .val (.long (p0 - p0 / (281474976710657 : Int64) * (281474976710657 : Int64))), .second, .unset, .unset, .unset, .unset, .unset, .unset, .unset, .unset, .unset, .unset, .unset] [(.int (p2 &&& (1 : Int32)))])) _
      refine XS.ifYes X0.here hx rfl (pc0 := 17) (pc' := 28) rfl (hb hby at_17) rfl ((if0 _ _).trans (teq hc2).1) (by decide) (by decide) ?_
      show Steps p.tables e below (s₁.setTop (mkF m 28 #[.val (.long p0), .second, .val (.long p1), .second, .val (.int p2), .val (.long (281474976710656 : Int64)), .second, .val (.long (p0 - p0 / (281474976710657 : Int64) * (281474976710657 : Int64))), .second, .unset, .unset, .unset, .unset, .unset, .unset, .unset, .unset, .unset, .unset, .unset] [])) _
      refine XS.lloadN X0.here hx rfl (hb hby at_28) rfl ?_
      show Steps p.tables e below (s₁.setTop (mkF m 29 #[.val (.long p0), .second, .val (.long p1), .second, .val (.int p2), .val (.long (281474976710656 : Int64)), .second, .val (.long (p0 - p0 / (281474976710657 : Int64) * (281474976710657 : Int64))), .second, .unset, .unset, .unset, .unset, .unset, .unset, .unset, .unset, .unset, .unset, .unset] [(.long p1)])) _
      refine XS.lload X0.here hx rfl (hb hby at_29) rfl ?_
      show Steps p.tables e below (s₁.setTop (mkF m 31 #[.val (.long p0), .second, .val (.long p1), .second, .val (.int p2), .val (.long (281474976710656 : Int64)), .second, .val (.long (p0 - p0 / (281474976710657 : Int64) * (281474976710657 : Int64))), .second, .unset, .unset, .unset, .unset, .unset, .unset, .unset, .unset, .unset, .unset, .unset] [(.long (281474976710656 : Int64)), (.long p1)])) _
      refine XS.lrem X0.here hx rfl (hb hby at_31) rfl (by decide) ?_
      show Steps p.tables e below (s₁.setTop (mkF m 32 #[.val (.long p0), .second, .val (.long p1), .second, .val (.int p2), .val (.long (281474976710656 : Int64)), .second, .val (.long (p0 - p0 / (281474976710657 : Int64) * (281474976710657 : Int64))), .second, .unset, .unset, .unset, .unset, .unset, .unset, .unset, .unset, .unset, .unset, .unset] [(.long (p1 - p1 / (281474976710656 : Int64) * (281474976710656 : Int64)))])) _
      refine XS.lstore X0.here hx rfl (hb hby at_32) rfl (l' := #[.val (.long p0), .second, .val (.long p1), .second, .val (.int p2), .val (.long (281474976710656 : Int64)), .second, .val (.long (p0 - p0 / (281474976710657 : Int64) * (281474976710657 : Int64))), .second, .val (.long (p1 - p1 / (281474976710656 : Int64) * (281474976710656 : Int64))), .second, .unset, .unset, .unset, .unset, .unset, .unset, .unset, .unset, .unset]) rfl ?_
      show Steps p.tables e below (s₁.setTop (mkF m 34 #[.val (.long p0), .second, .val (.long p1), .second, .val (.int p2), .val (.long (281474976710656 : Int64)), .second, .val (.long (p0 - p0 / (281474976710657 : Int64) * (281474976710657 : Int64))), .second, .val (.long (p1 - p1 / (281474976710656 : Int64) * (281474976710656 : Int64))), .second, .unset, .unset, .unset, .unset, .unset, .unset, .unset, .unset, .unset] [])) _
      refine XS.lload X0.here hx rfl (hb hby at_34) rfl ?_
      show Steps p.tables e below (s₁.setTop (mkF m 36 #[.val (.long p0), .second, .val (.long p1), .second, .val (.int p2), .val (.long (281474976710656 : Int64)), .second, .val (.long (p0 - p0 / (281474976710657 : Int64) * (281474976710657 : Int64))), .second, .val (.long (p1 - p1 / (281474976710656 : Int64) * (281474976710656 : Int64))), .second, .unset, .unset, .unset, .unset, .unset, .unset, .unset, .unset, .unset] [(.long (p0 - p0 / (281474976710657 : Int64) * (281474976710657 : Int64)))])) _
      refine XS.lload X0.here hx rfl (hb hby at_36) rfl ?_
      show Steps p.tables e below (s₁.setTop (mkF m 38 #[.val (.long p0), .second, .val (.long p1), .second, .val (.int p2), .val (.long (281474976710656 : Int64)), .second, .val (.long (p0 - p0 / (281474976710657 : Int64) * (281474976710657 : Int64))), .second, .val (.long (p1 - p1 / (281474976710656 : Int64) * (281474976710656 : Int64))), .second, .unset, .unset, .unset, .unset, .unset, .unset, .unset, .unset, .unset] [(.long (p1 - p1 / (281474976710656 : Int64) * (281474976710656 : Int64))), (.long (p0 - p0 / (281474976710657 : Int64) * (281474976710657 : Int64)))])) _
      refine XS.ladd X0.here hx rfl (hb hby at_38) rfl ?_
      show Steps p.tables e below (s₁.setTop (mkF m 39 #[.val (.long p0), .second, .val (.long p1), .second, .val (.int p2), .val (.long (281474976710656 : Int64)), .second, .val (.long (p0 - p0 / (281474976710657 : Int64) * (281474976710657 : Int64))), .second, .val (.long (p1 - p1 / (281474976710656 : Int64) * (281474976710656 : Int64))), .second, .unset, .unset, .unset, .unset, .unset, .unset, .unset, .unset, .unset] [(.long ((p0 - p0 / (281474976710657 : Int64) * (281474976710657 : Int64)) + (p1 - p1 / (281474976710656 : Int64) * (281474976710656 : Int64))))])) _
      refine XS.lstore X0.here hx rfl (hb hby at_39) rfl (l' := #[.val (.long p0), .second, .val (.long p1), .second, .val (.int p2), .val (.long (281474976710656 : Int64)), .second, .val (.long (p0 - p0 / (281474976710657 : Int64) * (281474976710657 : Int64))), .second, .val (.long (p1 - p1 / (281474976710656 : Int64) * (281474976710656 : Int64))), .second, .val (.long ((p0 - p0 / (281474976710657 : Int64) * (281474976710657 : Int64)) + (p1 - p1 / (281474976710656 : Int64) * (281474976710656 : Int64)))), .second, .unset, .unset, .unset, .unset, .unset, .unset, .unset]) rfl ?_
      show Steps p.tables e below (s₁.setTop (mkF m 41 #[.val (.long p0), .second, .val (.long p1), .second, .val (.int p2), .val (.long (281474976710656 : Int64)), .second, .val (.long (p0 - p0 / (281474976710657 : Int64) * (281474976710657 : Int64))), .second, .val (.long (p1 - p1 / (281474976710656 : Int64) * (281474976710656 : Int64))), .second, .val (.long ((p0 - p0 / (281474976710657 : Int64) * (281474976710657 : Int64)) + (p1 - p1 / (281474976710656 : Int64) * (281474976710656 : Int64)))), .second, .unset, .unset, .unset, .unset, .unset, .unset, .unset] [])) _
      refine XS.lload X0.here hx rfl (hb hby at_41) rfl ?_
      show Steps p.tables e below (s₁.setTop (mkF m 43 #[.val (.long p0), .second, .val (.long p1), .second, .val (.int p2), .val (.long (281474976710656 : Int64)), .second, .val (.long (p0 - p0 / (281474976710657 : Int64) * (281474976710657 : Int64))), .second, .val (.long (p1 - p1 / (281474976710656 : Int64) * (281474976710656 : Int64))), .second, .val (.long ((p0 - p0 / (281474976710657 : Int64) * (281474976710657 : Int64)) + (p1 - p1 / (281474976710656 : Int64) * (281474976710656 : Int64)))), .second, .unset, .unset, .unset, .unset, .unset, .unset, .unset] [(.long (281474976710656 : Int64))])) _
      refine XS.l2dS X0.here hx rfl (hb hby at_43) rfl (v := FP.l2d (281474976710656 : Int64)) rfl ?_
      show Steps p.tables e below (s₁.setTop (mkF m 44 #[.val (.long p0), .second, .val (.long p1), .second, .val (.int p2), .val (.long (281474976710656 : Int64)), .second, .val (.long (p0 - p0 / (281474976710657 : Int64) * (281474976710657 : Int64))), .second, .val (.long (p1 - p1 / (281474976710656 : Int64) * (281474976710656 : Int64))), .second, .val (.long ((p0 - p0 / (281474976710657 : Int64) * (281474976710657 : Int64)) + (p1 - p1 / (281474976710656 : Int64) * (281474976710656 : Int64)))), .second, .unset, .unset, .unset, .unset, .unset, .unset, .unset] [(.double (FP.l2d (281474976710656 : Int64)))])) _
      refine XS.dstore X0.here hx rfl (hb hby at_44) rfl (l' := #[.val (.long p0), .second, .val (.long p1), .second, .val (.int p2), .val (.long (281474976710656 : Int64)), .second, .val (.long (p0 - p0 / (281474976710657 : Int64) * (281474976710657 : Int64))), .second, .val (.long (p1 - p1 / (281474976710656 : Int64) * (281474976710656 : Int64))), .second, .val (.long ((p0 - p0 / (281474976710657 : Int64) * (281474976710657 : Int64)) + (p1 - p1 / (281474976710656 : Int64) * (281474976710656 : Int64)))), .second, .val (.double (FP.l2d (281474976710656 : Int64))), .second, .unset, .unset, .unset, .unset, .unset]) rfl ?_
      show Steps p.tables e below (s₁.setTop (mkF m 46 #[.val (.long p0), .second, .val (.long p1), .second, .val (.int p2), .val (.long (281474976710656 : Int64)), .second, .val (.long (p0 - p0 / (281474976710657 : Int64) * (281474976710657 : Int64))), .second, .val (.long (p1 - p1 / (281474976710656 : Int64) * (281474976710656 : Int64))), .second, .val (.long ((p0 - p0 / (281474976710657 : Int64) * (281474976710657 : Int64)) + (p1 - p1 / (281474976710656 : Int64) * (281474976710656 : Int64)))), .second, .val (.double (FP.l2d (281474976710656 : Int64))), .second, .unset, .unset, .unset, .unset, .unset] [])) _
      refine XS.lload X0.here hx rfl (hb hby at_46) rfl ?_
      show Steps p.tables e below (s₁.setTop (mkF m 48 #[.val (.long p0), .second, .val (.long p1), .second, .val (.int p2), .val (.long (281474976710656 : Int64)), .second, .val (.long (p0 - p0 / (281474976710657 : Int64) * (281474976710657 : Int64))), .second, .val (.long (p1 - p1 / (281474976710656 : Int64) * (281474976710656 : Int64))), .second, .val (.long ((p0 - p0 / (281474976710657 : Int64) * (281474976710657 : Int64)) + (p1 - p1 / (281474976710656 : Int64) * (281474976710656 : Int64)))), .second, .val (.double (FP.l2d (281474976710656 : Int64))), .second, .unset, .unset, .unset, .unset, .unset] [(.long (p0 - p0 / (281474976710657 : Int64) * (281474976710657 : Int64)))])) _
      refine XS.l2dS X0.here hx rfl (hb hby at_48) rfl (v := FP.l2d (p0 - p0 / (281474976710657 : Int64) * (281474976710657 : Int64))) rfl ?_
      show Steps p.tables e below (s₁.setTop (mkF m 49 #[.val (.long p0), .second, .val (.long p1), .second, .val (.int p2), .val (.long (281474976710656 : Int64)), .second, .val (.long (p0 - p0 / (281474976710657 : Int64) * (281474976710657 : Int64))), .second, .val (.long (p1 - p1 / (281474976710656 : Int64) * (281474976710656 : Int64))), .second, .val (.long ((p0 - p0 / (281474976710657 : Int64) * (281474976710657 : Int64)) + (p1 - p1 / (281474976710656 : Int64) * (281474976710656 : Int64)))), .second, .val (.double (FP.l2d (281474976710656 : Int64))), .second, .unset, .unset, .unset, .unset, .unset] [(.double (FP.l2d (p0 - p0 / (281474976710657 : Int64) * (281474976710657 : Int64))))])) _
      refine XS.dload X0.here hx rfl (hb hby at_49) rfl ?_
      show Steps p.tables e below (s₁.setTop (mkF m 51 #[.val (.long p0), .second, .val (.long p1), .second, .val (.int p2), .val (.long (281474976710656 : Int64)), .second, .val (.long (p0 - p0 / (281474976710657 : Int64) * (281474976710657 : Int64))), .second, .val (.long (p1 - p1 / (281474976710656 : Int64) * (281474976710656 : Int64))), .second, .val (.long ((p0 - p0 / (281474976710657 : Int64) * (281474976710657 : Int64)) + (p1 - p1 / (281474976710656 : Int64) * (281474976710656 : Int64)))), .second, .val (.double (FP.l2d (281474976710656 : Int64))), .second, .unset, .unset, .unset, .unset, .unset] [(.double (FP.l2d (281474976710656 : Int64))), (.double (FP.l2d (p0 - p0 / (281474976710657 : Int64) * (281474976710657 : Int64))))])) _
      refine XS.ddivS X0.here hx rfl (hb hby at_51) rfl (own_nnq _) (v := (FP.ddiv (FP.l2d (p0 - p0 / (281474976710657 : Int64) * (281474976710657 : Int64))) (FP.l2d (281474976710656 : Int64)))) rfl ?_
      show Steps p.tables e below (s₁.setTop (mkF m 52 #[.val (.long p0), .second, .val (.long p1), .second, .val (.int p2), .val (.long (281474976710656 : Int64)), .second, .val (.long (p0 - p0 / (281474976710657 : Int64) * (281474976710657 : Int64))), .second, .val (.long (p1 - p1 / (281474976710656 : Int64) * (281474976710656 : Int64))), .second, .val (.long ((p0 - p0 / (281474976710657 : Int64) * (281474976710657 : Int64)) + (p1 - p1 / (281474976710656 : Int64) * (281474976710656 : Int64)))), .second, .val (.double (FP.l2d (281474976710656 : Int64))), .second, .unset, .unset, .unset, .unset, .unset] [(.double (FP.ddiv (FP.l2d (p0 - p0 / (281474976710657 : Int64) * (281474976710657 : Int64))) (FP.l2d (281474976710656 : Int64))))])) _
      refine XS.dstore X0.here hx rfl (hb hby at_52) rfl (l' := #[.val (.long p0), .second, .val (.long p1), .second, .val (.int p2), .val (.long (281474976710656 : Int64)), .second, .val (.long (p0 - p0 / (281474976710657 : Int64) * (281474976710657 : Int64))), .second, .val (.long (p1 - p1 / (281474976710656 : Int64) * (281474976710656 : Int64))), .second, .val (.long ((p0 - p0 / (281474976710657 : Int64) * (281474976710657 : Int64)) + (p1 - p1 / (281474976710656 : Int64) * (281474976710656 : Int64)))), .second, .val (.double (FP.l2d (281474976710656 : Int64))), .second, .val (.double (FP.ddiv (FP.l2d (p0 - p0 / (281474976710657 : Int64) * (281474976710657 : Int64))) (FP.l2d (281474976710656 : Int64)))), .second, .unset, .unset, .unset]) rfl ?_
      show Steps p.tables e below (s₁.setTop (mkF m 54 #[.val (.long p0), .second, .val (.long p1), .second, .val (.int p2), .val (.long (281474976710656 : Int64)), .second, .val (.long (p0 - p0 / (281474976710657 : Int64) * (281474976710657 : Int64))), .second, .val (.long (p1 - p1 / (281474976710656 : Int64) * (281474976710656 : Int64))), .second, .val (.long ((p0 - p0 / (281474976710657 : Int64) * (281474976710657 : Int64)) + (p1 - p1 / (281474976710656 : Int64) * (281474976710656 : Int64)))), .second, .val (.double (FP.l2d (281474976710656 : Int64))), .second, .val (.double (FP.ddiv (FP.l2d (p0 - p0 / (281474976710657 : Int64) * (281474976710657 : Int64))) (FP.l2d (281474976710656 : Int64)))), .second, .unset, .unset, .unset] [])) _
      refine XS.lload X0.here hx rfl (hb hby at_54) rfl ?_
      show Steps p.tables e below (s₁.setTop (mkF m 56 #[.val (.long p0), .second, .val (.long p1), .second, .val (.int p2), .val (.long (281474976710656 : Int64)), .second, .val (.long (p0 - p0 / (281474976710657 : Int64) * (281474976710657 : Int64))), .second, .val (.long (p1 - p1 / (281474976710656 : Int64) * (281474976710656 : Int64))), .second, .val (.long ((p0 - p0 / (281474976710657 : Int64) * (281474976710657 : Int64)) + (p1 - p1 / (281474976710656 : Int64) * (281474976710656 : Int64)))), .second, .val (.double (FP.l2d (281474976710656 : Int64))), .second, .val (.double (FP.ddiv (FP.l2d (p0 - p0 / (281474976710657 : Int64) * (281474976710657 : Int64))) (FP.l2d (281474976710656 : Int64)))), .second, .unset, .unset, .unset] [(.long ((p0 - p0 / (281474976710657 : Int64) * (281474976710657 : Int64)) + (p1 - p1 / (281474976710656 : Int64) * (281474976710656 : Int64))))])) _
      refine XS.l2dS X0.here hx rfl (hb hby at_56) rfl (v := FP.l2d ((p0 - p0 / (281474976710657 : Int64) * (281474976710657 : Int64)) + (p1 - p1 / (281474976710656 : Int64) * (281474976710656 : Int64)))) rfl ?_
      show Steps p.tables e below (s₁.setTop (mkF m 57 #[.val (.long p0), .second, .val (.long p1), .second, .val (.int p2), .val (.long (281474976710656 : Int64)), .second, .val (.long (p0 - p0 / (281474976710657 : Int64) * (281474976710657 : Int64))), .second, .val (.long (p1 - p1 / (281474976710656 : Int64) * (281474976710656 : Int64))), .second, .val (.long ((p0 - p0 / (281474976710657 : Int64) * (281474976710657 : Int64)) + (p1 - p1 / (281474976710656 : Int64) * (281474976710656 : Int64)))), .second, .val (.double (FP.l2d (281474976710656 : Int64))), .second, .val (.double (FP.ddiv (FP.l2d (p0 - p0 / (281474976710657 : Int64) * (281474976710657 : Int64))) (FP.l2d (281474976710656 : Int64)))), .second, .unset, .unset, .unset] [(.double (FP.l2d ((p0 - p0 / (281474976710657 : Int64) * (281474976710657 : Int64)) + (p1 - p1 / (281474976710656 : Int64) * (281474976710656 : Int64)))))])) _
      refine XS.dload X0.here hx rfl (hb hby at_57) rfl ?_
      show Steps p.tables e below (s₁.setTop (mkF m 59 #[.val (.long p0), .second, .val (.long p1), .second, .val (.int p2), .val (.long (281474976710656 : Int64)), .second, .val (.long (p0 - p0 / (281474976710657 : Int64) * (281474976710657 : Int64))), .second, .val (.long (p1 - p1 / (281474976710656 : Int64) * (281474976710656 : Int64))), .second, .val (.long ((p0 - p0 / (281474976710657 : Int64) * (281474976710657 : Int64)) + (p1 - p1 / (281474976710656 : Int64) * (281474976710656 : Int64)))), .second, .val (.double (FP.l2d (281474976710656 : Int64))), .second, .val (.double (FP.ddiv (FP.l2d (p0 - p0 / (281474976710657 : Int64) * (281474976710657 : Int64))) (FP.l2d (281474976710656 : Int64)))), .second, .unset, .unset, .unset] [(.double (FP.l2d (281474976710656 : Int64))), (.double (FP.l2d ((p0 - p0 / (281474976710657 : Int64) * (281474976710657 : Int64)) + (p1 - p1 / (281474976710656 : Int64) * (281474976710656 : Int64)))))])) _
      refine XS.ddivS X0.here hx rfl (hb hby at_59) rfl (own_nnq _) (v := (FP.ddiv (FP.l2d ((p0 - p0 / (281474976710657 : Int64) * (281474976710657 : Int64)) + (p1 - p1 / (281474976710656 : Int64) * (281474976710656 : Int64)))) (FP.l2d (281474976710656 : Int64)))) rfl ?_
      show Steps p.tables e below (s₁.setTop (mkF m 60 #[.val (.long p0), .second, .val (.long p1), .second, .val (.int p2), .val (.long (281474976710656 : Int64)), .second, .val (.long (p0 - p0 / (281474976710657 : Int64) * (281474976710657 : Int64))), .second, .val (.long (p1 - p1 / (281474976710656 : Int64) * (281474976710656 : Int64))), .second, .val (.long ((p0 - p0 / (281474976710657 : Int64) * (281474976710657 : Int64)) + (p1 - p1 / (281474976710656 : Int64) * (281474976710656 : Int64)))), .second, .val (.double (FP.l2d (281474976710656 : Int64))), .second, .val (.double (FP.ddiv (FP.l2d (p0 - p0 / (281474976710657 : Int64) * (281474976710657 : Int64))) (FP.l2d (281474976710656 : Int64)))), .second, .unset, .unset, .unset] [(.double (FP.ddiv (FP.l2d ((p0 - p0 / (281474976710657 : Int64) * (281474976710657 : Int64)) + (p1 - p1 / (281474976710656 : Int64) * (281474976710656 : Int64)))) (FP.l2d (281474976710656 : Int64))))])) _
      refine XS.dstore X0.here hx rfl (hb hby at_60) rfl (l' := #[.val (.long p0), .second, .val (.long p1), .second, .val (.int p2), .val (.long (281474976710656 : Int64)), .second, .val (.long (p0 - p0 / (281474976710657 : Int64) * (281474976710657 : Int64))), .second, .val (.long (p1 - p1 / (281474976710656 : Int64) * (281474976710656 : Int64))), .second, .val (.long ((p0 - p0 / (281474976710657 : Int64) * (281474976710657 : Int64)) + (p1 - p1 / (281474976710656 : Int64) * (281474976710656 : Int64)))), .second, .val (.double (FP.l2d (281474976710656 : Int64))), .second, .val (.double (FP.ddiv (FP.l2d (p0 - p0 / (281474976710657 : Int64) * (281474976710657 : Int64))) (FP.l2d (281474976710656 : Int64)))), .second, .val (.double (FP.ddiv (FP.l2d ((p0 - p0 / (281474976710657 : Int64) * (281474976710657 : Int64)) + (p1 - p1 / (281474976710656 : Int64) * (281474976710656 : Int64)))) (FP.l2d (281474976710656 : Int64)))), .second, .unset]) rfl ?_
      show Steps p.tables e below (s₁.setTop (mkF m 62 #[.val (.long p0), .second, .val (.long p1), .second, .val (.int p2), .val (.long (281474976710656 : Int64)), .second, .val (.long (p0 - p0 / (281474976710657 : Int64) * (281474976710657 : Int64))), .second, .val (.long (p1 - p1 / (281474976710656 : Int64) * (281474976710656 : Int64))), .second, .val (.long ((p0 - p0 / (281474976710657 : Int64) * (281474976710657 : Int64)) + (p1 - p1 / (281474976710656 : Int64) * (281474976710656 : Int64)))), .second, .val (.double (FP.l2d (281474976710656 : Int64))), .second, .val (.double (FP.ddiv (FP.l2d (p0 - p0 / (281474976710657 : Int64) * (281474976710657 : Int64))) (FP.l2d (281474976710656 : Int64)))), .second, .val (.double (FP.ddiv (FP.l2d ((p0 - p0 / (281474976710657 : Int64) * (281474976710657 : Int64)) + (p1 - p1 / (281474976710656 : Int64) * (281474976710656 : Int64)))) (FP.l2d (281474976710656 : Int64)))), .second, .unset] [])) _
      refine XS.lload X0.here hx rfl (hb hby at_62) rfl ?_
      show Steps p.tables e below (s₁.setTop (mkF m 64 #[.val (.long p0), .second, .val (.long p1), .second, .val (.int p2), .val (.long (281474976710656 : Int64)), .second, .val (.long (p0 - p0 / (281474976710657 : Int64) * (281474976710657 : Int64))), .second, .val (.long (p1 - p1 / (281474976710656 : Int64) * (281474976710656 : Int64))), .second, .val (.long ((p0 - p0 / (281474976710657 : Int64) * (281474976710657 : Int64)) + (p1 - p1 / (281474976710656 : Int64) * (281474976710656 : Int64)))), .second, .val (.double (FP.l2d (281474976710656 : Int64))), .second, .val (.double (FP.ddiv (FP.l2d (p0 - p0 / (281474976710657 : Int64) * (281474976710657 : Int64))) (FP.l2d (281474976710656 : Int64)))), .second, .val (.double (FP.ddiv (FP.l2d ((p0 - p0 / (281474976710657 : Int64) * (281474976710657 : Int64)) + (p1 - p1 / (281474976710656 : Int64) * (281474976710656 : Int64)))) (FP.l2d (281474976710656 : Int64)))), .second, .unset] [(.long (p1 - p1 / (281474976710656 : Int64) * (281474976710656 : Int64)))])) _
      refine X0.ldc2Long hx hown (mvT hZ (own_k hw 1 rfl)) (g := (mkF m 64 #[.val (.long p0), .second, .val (.long p1), .second, .val (.int p2), .val (.long (281474976710656 : Int64)), .second, .val (.long (p0 - p0 / (281474976710657 : Int64) * (281474976710657 : Int64))), .second, .val (.long (p1 - p1 / (281474976710656 : Int64) * (281474976710656 : Int64))), .second, .val (.long ((p0 - p0 / (281474976710657 : Int64) * (281474976710657 : Int64)) + (p1 - p1 / (281474976710656 : Int64) * (281474976710656 : Int64)))), .second, .val (.double (FP.l2d (281474976710656 : Int64))), .second, .val (.double (FP.ddiv (FP.l2d (p0 - p0 / (281474976710657 : Int64) * (281474976710657 : Int64))) (FP.l2d (281474976710656 : Int64)))), .second, .val (.double (FP.ddiv (FP.l2d ((p0 - p0 / (281474976710657 : Int64) * (281474976710657 : Int64)) + (p1 - p1 / (281474976710656 : Int64) * (281474976710656 : Int64)))) (FP.l2d (281474976710656 : Int64)))), .second, .unset] [(.long (p1 - p1 / (281474976710656 : Int64) * (281474976710656 : Int64)))])) rfl (hb hby at_64) _ ?_
      show Steps p.tables e below (s₁.setTop (mkF m 67 #[.val (.long p0), .second, .val (.long p1), .second, .val (.int p2), .val (.long (281474976710656 : Int64)), .second, .val (.long (p0 - p0 / (281474976710657 : Int64) * (281474976710657 : Int64))), .second, .val (.long (p1 - p1 / (281474976710656 : Int64) * (281474976710656 : Int64))), .second, .val (.long ((p0 - p0 / (281474976710657 : Int64) * (281474976710657 : Int64)) + (p1 - p1 / (281474976710656 : Int64) * (281474976710656 : Int64)))), .second, .val (.double (FP.l2d (281474976710656 : Int64))), .second, .val (.double (FP.ddiv (FP.l2d (p0 - p0 / (281474976710657 : Int64) * (281474976710657 : Int64))) (FP.l2d (281474976710656 : Int64)))), .second, .val (.double (FP.ddiv (FP.l2d ((p0 - p0 / (281474976710657 : Int64) * (281474976710657 : Int64)) + (p1 - p1 / (281474976710656 : Int64) * (281474976710656 : Int64)))) (FP.l2d (281474976710656 : Int64)))), .second, .unset] [(.long (282 : Int64)), (.long (p1 - p1 / (281474976710656 : Int64) * (281474976710656 : Int64)))])) _
      refine XS.lcmp X0.here hx rfl (hb hby at_67) rfl ?_
      exact kt)
    by_cases hc4 : (lcmpW (p1 - p1 / (281474976710656 : Int64) * (281474976710656 : Int64)) (282 : Int64)) < (0 : Int32)
    · skip
      obtain ⟨_, _, ⟨T5, L5, k5, n5⟩, -, X5, ⟨Lc5, hQ5, l5, y5, z5⟩, st5⟩ := Jvm.LawKit.callS X0 hx (y := (⟨"com/example/topics_into_queries/topicsintoqueries/SphericalKMeans", "higher", "(DD)Z"⟩ : MethodName)) hown (mvT hZ (own_k hw 2 rfl)) (mvT hZ (own_k hw 3 rfl)) (mvT hZ (own_k hw 4 rfl)) (mvT hZ (own_k hw 5 rfl)) (by decide) (backOf (W := 0) (rmHi l Z a0 hw [] (FP.ddiv (FP.l2d ((p0 - p0 / (281474976710657 : Int64) * (281474976710657 : Int64)) + (p1 - p1 / (281474976710656 : Int64) * (281474976710656 : Int64)))) (FP.l2d (281474976710656 : Int64))) (FP.ddiv (FP.l2d (p0 - p0 / (281474976710657 : Int64) * (281474976710657 : Int64))) (FP.l2d (281474976710656 : Int64))) h0 n0 Z0 (own_nns _)) hZ (own_k hw 5 rfl) (own_k hw 4 rfl) (by decide) (by decide)) (g := (mkF m 82 #[.val (.long p0), .second, .val (.long p1), .second, .val (.int p2), .val (.long (281474976710656 : Int64)), .second, .val (.long (p0 - p0 / (281474976710657 : Int64) * (281474976710657 : Int64))), .second, .val (.long (p1 - p1 / (281474976710656 : Int64) * (281474976710656 : Int64))), .second, .val (.long ((p0 - p0 / (281474976710657 : Int64) * (281474976710657 : Int64)) + (p1 - p1 / (281474976710656 : Int64) * (281474976710656 : Int64)))), .second, .val (.double (FP.l2d (281474976710656 : Int64))), .second, .val (.double (FP.ddiv (FP.l2d (p0 - p0 / (281474976710657 : Int64) * (281474976710657 : Int64))) (FP.l2d (281474976710656 : Int64)))), .second, .val (.double (FP.ddiv (FP.l2d ((p0 - p0 / (281474976710657 : Int64) * (281474976710657 : Int64)) + (p1 - p1 / (281474976710656 : Int64) * (281474976710656 : Int64)))) (FP.l2d (281474976710656 : Int64)))), .second, .val (.int (0 : Int32))] [(.double (FP.ddiv (FP.l2d (p0 - p0 / (281474976710657 : Int64) * (281474976710657 : Int64))) (FP.l2d (281474976710656 : Int64)))), (.double (FP.ddiv (FP.l2d ((p0 - p0 / (281474976710657 : Int64) * (281474976710657 : Int64)) + (p1 - p1 / (281474976710656 : Int64) * (281474976710656 : Int64)))) (FP.l2d (281474976710656 : Int64))))])) rfl (by rw [hml]; rfl) (argsL := [(.double (FP.ddiv (FP.l2d ((p0 - p0 / (281474976710657 : Int64) * (281474976710657 : Int64)) + (p1 - p1 / (281474976710656 : Int64) * (281474976710656 : Int64)))) (FP.l2d (281474976710656 : Int64)))), (.double (FP.ddiv (FP.l2d (p0 - p0 / (281474976710657 : Int64) * (281474976710657 : Int64))) (FP.l2d (281474976710656 : Int64))))]) (rest := []) (lenOf own_pd_0 rfl) rfl (by show 2 * 0 + _ ≤ _; exact Nat.le_of_eq rfl) (hb hby at_82) (fun _ _ => ⟨rfl, e0, (by decide : 0 + 0 ≤ _), (by decide : 0 + 0 ≤ _)⟩)
      dsimp only [Pt.U, Pt.locs, Pt.cells, Pt.slots] at X5 l5 y5 z5 st5 hQ5
      subst l5 y5 z5
      obtain ⟨Nq5, eh5, hv5⟩ := hQ5
      have N5 := Fr.app N0 Nq5
      have pre6 : ∀ t, Steps p.tables e below (s₁.setTop (mkF m 82 #[.val (.long p0), .second, .val (.long p1), .second, .val (.int p2), .val (.long (281474976710656 : Int64)), .second, .val (.long (p0 - p0 / (281474976710657 : Int64) * (281474976710657 : Int64))), .second, .val (.long (p1 - p1 / (281474976710656 : Int64) * (281474976710656 : Int64))), .second, .val (.long ((p0 - p0 / (281474976710657 : Int64) * (281474976710657 : Int64)) + (p1 - p1 / (281474976710656 : Int64) * (281474976710656 : Int64)))), .second, .val (.double (FP.l2d (281474976710656 : Int64))), .second, .val (.double (FP.ddiv (FP.l2d (p0 - p0 / (281474976710657 : Int64) * (281474976710657 : Int64))) (FP.l2d (281474976710656 : Int64)))), .second, .val (.double (FP.ddiv (FP.l2d ((p0 - p0 / (281474976710657 : Int64) * (281474976710657 : Int64)) + (p1 - p1 / (281474976710656 : Int64) * (281474976710656 : Int64)))) (FP.l2d (281474976710656 : Int64)))), .second, .val (.int (0 : Int32))] [(.double (FP.ddiv (FP.l2d (p0 - p0 / (281474976710657 : Int64) * (281474976710657 : Int64))) (FP.l2d (281474976710656 : Int64)))), (.double (FP.ddiv (FP.l2d ((p0 - p0 / (281474976710657 : Int64) * (281474976710657 : Int64)) + (p1 - p1 / (281474976710656 : Int64) * (281474976710656 : Int64)))) (FP.l2d (281474976710656 : Int64))))])) t → Steps p.tables e below (s₁.setTop (entryFrame m #[(.long p0), (.long p1), (.int p2)] maxLocals)) t := fun t kt => pre3 t (by
        show Steps p.tables e below (s₁.setTop (mkF m 68 #[.val (.long p0), .second, .val (.long p1), .second, .val (.int p2), .val (.long (281474976710656 : Int64)), .second, .val (.long (p0 - p0 / (281474976710657 : Int64) * (281474976710657 : Int64))), .second, .val (.long (p1 - p1 / (281474976710656 : Int64) * (281474976710656 : Int64))), .second, .val (.long ((p0 - p0 / (281474976710657 : Int64) * (281474976710657 : Int64)) + (p1 - p1 / (281474976710656 : Int64) * (281474976710656 : Int64)))), .second, .val (.double (FP.l2d (281474976710656 : Int64))), .second, .val (.double (FP.ddiv (FP.l2d (p0 - p0 / (281474976710657 : Int64) * (281474976710657 : Int64))) (FP.l2d (281474976710656 : Int64)))), .second, .val (.double (FP.ddiv (FP.l2d ((p0 - p0 / (281474976710657 : Int64) * (281474976710657 : Int64)) + (p1 - p1 / (281474976710656 : Int64) * (281474976710656 : Int64)))) (FP.l2d (281474976710656 : Int64)))), .second, .unset] [(.int (lcmpW (p1 - p1 / (281474976710656 : Int64) * (281474976710656 : Int64)) (282 : Int64)))])) _
        refine XS.ifYes X0.here hx rfl (pc0 := 68) (pc' := 75) rfl (hb hby at_68) rfl ((if0 _ _).trans (tlt hc4).1) (by decide) (by decide) ?_
        show Steps p.tables e below (s₁.setTop (mkF m 75 #[.val (.long p0), .second, .val (.long p1), .second, .val (.int p2), .val (.long (281474976710656 : Int64)), .second, .val (.long (p0 - p0 / (281474976710657 : Int64) * (281474976710657 : Int64))), .second, .val (.long (p1 - p1 / (281474976710656 : Int64) * (281474976710656 : Int64))), .second, .val (.long ((p0 - p0 / (281474976710657 : Int64) * (281474976710657 : Int64)) + (p1 - p1 / (281474976710656 : Int64) * (281474976710656 : Int64)))), .second, .val (.double (FP.l2d (281474976710656 : Int64))), .second, .val (.double (FP.ddiv (FP.l2d (p0 - p0 / (281474976710657 : Int64) * (281474976710657 : Int64))) (FP.l2d (281474976710656 : Int64)))), .second, .val (.double (FP.ddiv (FP.l2d ((p0 - p0 / (281474976710657 : Int64) * (281474976710657 : Int64)) + (p1 - p1 / (281474976710656 : Int64) * (281474976710656 : Int64)))) (FP.l2d (281474976710656 : Int64)))), .second, .unset] [])) _
        refine XS.iconst X0.here hx rfl (hb hby at_75) ?_
        show Steps p.tables e below (s₁.setTop (mkF m 76 #[.val (.long p0), .second, .val (.long p1), .second, .val (.int p2), .val (.long (281474976710656 : Int64)), .second, .val (.long (p0 - p0 / (281474976710657 : Int64) * (281474976710657 : Int64))), .second, .val (.long (p1 - p1 / (281474976710656 : Int64) * (281474976710656 : Int64))), .second, .val (.long ((p0 - p0 / (281474976710657 : Int64) * (281474976710657 : Int64)) + (p1 - p1 / (281474976710656 : Int64) * (281474976710656 : Int64)))), .second, .val (.double (FP.l2d (281474976710656 : Int64))), .second, .val (.double (FP.ddiv (FP.l2d (p0 - p0 / (281474976710657 : Int64) * (281474976710657 : Int64))) (FP.l2d (281474976710656 : Int64)))), .second, .val (.double (FP.ddiv (FP.l2d ((p0 - p0 / (281474976710657 : Int64) * (281474976710657 : Int64)) + (p1 - p1 / (281474976710656 : Int64) * (281474976710656 : Int64)))) (FP.l2d (281474976710656 : Int64)))), .second, .unset] [(.int (0 : Int32))])) _
        refine XS.istore X0.here hx rfl (hb hby at_76) rfl (l' := #[.val (.long p0), .second, .val (.long p1), .second, .val (.int p2), .val (.long (281474976710656 : Int64)), .second, .val (.long (p0 - p0 / (281474976710657 : Int64) * (281474976710657 : Int64))), .second, .val (.long (p1 - p1 / (281474976710656 : Int64) * (281474976710656 : Int64))), .second, .val (.long ((p0 - p0 / (281474976710657 : Int64) * (281474976710657 : Int64)) + (p1 - p1 / (281474976710656 : Int64) * (281474976710656 : Int64)))), .second, .val (.double (FP.l2d (281474976710656 : Int64))), .second, .val (.double (FP.ddiv (FP.l2d (p0 - p0 / (281474976710657 : Int64) * (281474976710657 : Int64))) (FP.l2d (281474976710656 : Int64)))), .second, .val (.double (FP.ddiv (FP.l2d ((p0 - p0 / (281474976710657 : Int64) * (281474976710657 : Int64)) + (p1 - p1 / (281474976710656 : Int64) * (281474976710656 : Int64)))) (FP.l2d (281474976710656 : Int64)))), .second, .val (.int (0 : Int32))]) rfl ?_
        show Steps p.tables e below (s₁.setTop (mkF m 78 #[.val (.long p0), .second, .val (.long p1), .second, .val (.int p2), .val (.long (281474976710656 : Int64)), .second, .val (.long (p0 - p0 / (281474976710657 : Int64) * (281474976710657 : Int64))), .second, .val (.long (p1 - p1 / (281474976710656 : Int64) * (281474976710656 : Int64))), .second, .val (.long ((p0 - p0 / (281474976710657 : Int64) * (281474976710657 : Int64)) + (p1 - p1 / (281474976710656 : Int64) * (281474976710656 : Int64)))), .second, .val (.double (FP.l2d (281474976710656 : Int64))), .second, .val (.double (FP.ddiv (FP.l2d (p0 - p0 / (281474976710657 : Int64) * (281474976710657 : Int64))) (FP.l2d (281474976710656 : Int64)))), .second, .val (.double (FP.ddiv (FP.l2d ((p0 - p0 / (281474976710657 : Int64) * (281474976710657 : Int64)) + (p1 - p1 / (281474976710656 : Int64) * (281474976710656 : Int64)))) (FP.l2d (281474976710656 : Int64)))), .second, .val (.int (0 : Int32))] [])) _
        refine XS.dload X0.here hx rfl (hb hby at_78) rfl ?_
        show Steps p.tables e below (s₁.setTop (mkF m 80 #[.val (.long p0), .second, .val (.long p1), .second, .val (.int p2), .val (.long (281474976710656 : Int64)), .second, .val (.long (p0 - p0 / (281474976710657 : Int64) * (281474976710657 : Int64))), .second, .val (.long (p1 - p1 / (281474976710656 : Int64) * (281474976710656 : Int64))), .second, .val (.long ((p0 - p0 / (281474976710657 : Int64) * (281474976710657 : Int64)) + (p1 - p1 / (281474976710656 : Int64) * (281474976710656 : Int64)))), .second, .val (.double (FP.l2d (281474976710656 : Int64))), .second, .val (.double (FP.ddiv (FP.l2d (p0 - p0 / (281474976710657 : Int64) * (281474976710657 : Int64))) (FP.l2d (281474976710656 : Int64)))), .second, .val (.double (FP.ddiv (FP.l2d ((p0 - p0 / (281474976710657 : Int64) * (281474976710657 : Int64)) + (p1 - p1 / (281474976710656 : Int64) * (281474976710656 : Int64)))) (FP.l2d (281474976710656 : Int64)))), .second, .val (.int (0 : Int32))] [(.double (FP.ddiv (FP.l2d ((p0 - p0 / (281474976710657 : Int64) * (281474976710657 : Int64)) + (p1 - p1 / (281474976710656 : Int64) * (281474976710656 : Int64)))) (FP.l2d (281474976710656 : Int64))))])) _
        refine XS.dload X0.here hx rfl (hb hby at_80) rfl ?_
        exact kt)
      rcases hv5 with ⟨hv5, hd5_0⟩ | ⟨hv5, hd5_0⟩
      · subst hv5
        exfalso
        have q := (own_higher (own_rem rfl (by decide) (by decide)) (own_rem rfl (by decide) (by decide))).mp hd5_0
        have r := (lw_lt _ _).mp hc4
        rw [Int64.lt_iff_toInt_lt] at r
        have e2 : (282 : Int64).toInt = 282 := rfl
        omega
      · subst hv5
        obtain ⟨fs, hr, hrun, hended, hW, hsame⟩ := X5.leave (v := (some (.int (1 : Int32)))) (fun h => by rw [Bd.returns] at h; cases h)
        refine ⟨_, _, pre6 _ ?_, hrun, hended, _, _, rfl, ?_, ⟨_, rfl⟩, hW, hsame.mono (by decide) (by decide)⟩
        · show Steps p.tables e below (s₁.setTop (mkF m 82 #[.val (.long p0), .second, .val (.long p1), .second, .val (.int p2), .val (.long (281474976710656 : Int64)), .second, .val (.long (p0 - p0 / (281474976710657 : Int64) * (281474976710657 : Int64))), .second, .val (.long (p1 - p1 / (281474976710656 : Int64) * (281474976710656 : Int64))), .second, .val (.long ((p0 - p0 / (281474976710657 : Int64) * (281474976710657 : Int64)) + (p1 - p1 / (281474976710656 : Int64) * (281474976710656 : Int64)))), .second, .val (.double (FP.l2d (281474976710656 : Int64))), .second, .val (.double (FP.ddiv (FP.l2d (p0 - p0 / (281474976710657 : Int64) * (281474976710657 : Int64))) (FP.l2d (281474976710656 : Int64)))), .second, .val (.double (FP.ddiv (FP.l2d ((p0 - p0 / (281474976710657 : Int64) * (281474976710657 : Int64)) + (p1 - p1 / (281474976710656 : Int64) * (281474976710656 : Int64)))) (FP.l2d (281474976710656 : Int64)))), .second, .val (.int (0 : Int32))] [(.double (FP.ddiv (FP.l2d (p0 - p0 / (281474976710657 : Int64) * (281474976710657 : Int64))) (FP.l2d (281474976710656 : Int64)))), (.double (FP.ddiv (FP.l2d ((p0 - p0 / (281474976710657 : Int64) * (281474976710657 : Int64)) + (p1 - p1 / (281474976710656 : Int64) * (281474976710656 : Int64)))) (FP.l2d (281474976710656 : Int64))))])) _
          refine st5 _ ?_
          show Steps p.tables e below (T5.setTop (mkF m 85 #[.val (.long p0), .second, .val (.long p1), .second, .val (.int p2), .val (.long (281474976710656 : Int64)), .second, .val (.long (p0 - p0 / (281474976710657 : Int64) * (281474976710657 : Int64))), .second, .val (.long (p1 - p1 / (281474976710656 : Int64) * (281474976710656 : Int64))), .second, .val (.long ((p0 - p0 / (281474976710657 : Int64) * (281474976710657 : Int64)) + (p1 - p1 / (281474976710656 : Int64) * (281474976710656 : Int64)))), .second, .val (.double (FP.l2d (281474976710656 : Int64))), .second, .val (.double (FP.ddiv (FP.l2d (p0 - p0 / (281474976710657 : Int64) * (281474976710657 : Int64))) (FP.l2d (281474976710656 : Int64)))), .second, .val (.double (FP.ddiv (FP.l2d ((p0 - p0 / (281474976710657 : Int64) * (281474976710657 : Int64)) + (p1 - p1 / (281474976710656 : Int64) * (281474976710656 : Int64)))) (FP.l2d (281474976710656 : Int64)))), .second, .val (.int (0 : Int32))] [(.int (0 : Int32))])) _
          refine XS.iload X5.here hx rfl (hb hby at_85) rfl ?_
          show Steps p.tables e below (T5.setTop (mkF m 87 #[.val (.long p0), .second, .val (.long p1), .second, .val (.int p2), .val (.long (281474976710656 : Int64)), .second, .val (.long (p0 - p0 / (281474976710657 : Int64) * (281474976710657 : Int64))), .second, .val (.long (p1 - p1 / (281474976710656 : Int64) * (281474976710656 : Int64))), .second, .val (.long ((p0 - p0 / (281474976710657 : Int64) * (281474976710657 : Int64)) + (p1 - p1 / (281474976710656 : Int64) * (281474976710656 : Int64)))), .second, .val (.double (FP.l2d (281474976710656 : Int64))), .second, .val (.double (FP.ddiv (FP.l2d (p0 - p0 / (281474976710657 : Int64) * (281474976710657 : Int64))) (FP.l2d (281474976710656 : Int64)))), .second, .val (.double (FP.ddiv (FP.l2d ((p0 - p0 / (281474976710657 : Int64) * (281474976710657 : Int64)) + (p1 - p1 / (281474976710656 : Int64) * (281474976710656 : Int64)))) (FP.l2d (281474976710656 : Int64)))), .second, .val (.int (0 : Int32))] [(.int (0 : Int32)), (.int (0 : Int32))])) _
          refine XS.icmpNo X5.here hx rfl (hb hby at_87) rfl (by decide) ?_
          show Steps p.tables e below (T5.setTop (mkF m 90 #[.val (.long p0), .second, .val (.long p1), .second, .val (.int p2), .val (.long (281474976710656 : Int64)), .second, .val (.long (p0 - p0 / (281474976710657 : Int64) * (281474976710657 : Int64))), .second, .val (.long (p1 - p1 / (281474976710656 : Int64) * (281474976710656 : Int64))), .second, .val (.long ((p0 - p0 / (281474976710657 : Int64) * (281474976710657 : Int64)) + (p1 - p1 / (281474976710656 : Int64) * (281474976710656 : Int64)))), .second, .val (.double (FP.l2d (281474976710656 : Int64))), .second, .val (.double (FP.ddiv (FP.l2d (p0 - p0 / (281474976710657 : Int64) * (281474976710657 : Int64))) (FP.l2d (281474976710656 : Int64)))), .second, .val (.double (FP.ddiv (FP.l2d ((p0 - p0 / (281474976710657 : Int64) * (281474976710657 : Int64)) + (p1 - p1 / (281474976710656 : Int64) * (281474976710656 : Int64)))) (FP.l2d (281474976710656 : Int64)))), .second, .val (.int (0 : Int32))] [])) _
          refine XS.iconst X5.here hx rfl (hb hby at_90) ?_
          show Steps p.tables e below (T5.setTop (mkF m 91 #[.val (.long p0), .second, .val (.long p1), .second, .val (.int p2), .val (.long (281474976710656 : Int64)), .second, .val (.long (p0 - p0 / (281474976710657 : Int64) * (281474976710657 : Int64))), .second, .val (.long (p1 - p1 / (281474976710656 : Int64) * (281474976710656 : Int64))), .second, .val (.long ((p0 - p0 / (281474976710657 : Int64) * (281474976710657 : Int64)) + (p1 - p1 / (281474976710656 : Int64) * (281474976710656 : Int64)))), .second, .val (.double (FP.l2d (281474976710656 : Int64))), .second, .val (.double (FP.ddiv (FP.l2d (p0 - p0 / (281474976710657 : Int64) * (281474976710657 : Int64))) (FP.l2d (281474976710656 : Int64)))), .second, .val (.double (FP.ddiv (FP.l2d ((p0 - p0 / (281474976710657 : Int64) * (281474976710657 : Int64)) + (p1 - p1 / (281474976710656 : Int64) * (281474976710656 : Int64)))) (FP.l2d (281474976710656 : Int64)))), .second, .val (.int (0 : Int32))] [(.int (1 : Int32))])) _
          refine XS.goto X5.here hx rfl (pc0 := 91) (pc' := 95) rfl (hb hby at_91) (by decide) (by decide) ?_
          show Steps p.tables e below (T5.setTop (mkF m 95 #[.val (.long p0), .second, .val (.long p1), .second, .val (.int p2), .val (.long (281474976710656 : Int64)), .second, .val (.long (p0 - p0 / (281474976710657 : Int64) * (281474976710657 : Int64))), .second, .val (.long (p1 - p1 / (281474976710656 : Int64) * (281474976710656 : Int64))), .second, .val (.long ((p0 - p0 / (281474976710657 : Int64) * (281474976710657 : Int64)) + (p1 - p1 / (281474976710656 : Int64) * (281474976710656 : Int64)))), .second, .val (.double (FP.l2d (281474976710656 : Int64))), .second, .val (.double (FP.ddiv (FP.l2d (p0 - p0 / (281474976710657 : Int64) * (281474976710657 : Int64))) (FP.l2d (281474976710656 : Int64)))), .second, .val (.double (FP.ddiv (FP.l2d ((p0 - p0 / (281474976710657 : Int64) * (281474976710657 : Int64)) + (p1 - p1 / (281474976710656 : Int64) * (281474976710656 : Int64)))) (FP.l2d (281474976710656 : Int64)))), .second, .val (.int (0 : Int32))] [(.int (1 : Int32))])) _
          exact retN X5 hx (t := .boolean) Bd.returns (by simp) (hb hby at_95) hr
        · show Q0 Z p0 p1 p2 h0 n0 _ T5.heap _
          rw [eh5]
          exact ⟨N5, rfl⟩
    · skip
      obtain ⟨_, _, ⟨T7, L7, k7, n7⟩, -, X7, ⟨Lc7, hQ7, l7, y7, z7⟩, st7⟩ := Jvm.LawKit.callS X0 hx (y := (⟨"com/example/topics_into_queries/topicsintoqueries/SphericalKMeans", "higher", "(DD)Z"⟩ : MethodName)) hown (mvT hZ (own_k hw 2 rfl)) (mvT hZ (own_k hw 3 rfl)) (mvT hZ (own_k hw 4 rfl)) (mvT hZ (own_k hw 5 rfl)) (by decide) (backOf (W := 0) (rmHi l Z a0 hw [] (FP.ddiv (FP.l2d ((p0 - p0 / (281474976710657 : Int64) * (281474976710657 : Int64)) + (p1 - p1 / (281474976710656 : Int64) * (281474976710656 : Int64)))) (FP.l2d (281474976710656 : Int64))) (FP.ddiv (FP.l2d (p0 - p0 / (281474976710657 : Int64) * (281474976710657 : Int64))) (FP.l2d (281474976710656 : Int64))) h0 n0 Z0 (own_nns _)) hZ (own_k hw 5 rfl) (own_k hw 4 rfl) (by decide) (by decide)) (g := (mkF m 82 #[.val (.long p0), .second, .val (.long p1), .second, .val (.int p2), .val (.long (281474976710656 : Int64)), .second, .val (.long (p0 - p0 / (281474976710657 : Int64) * (281474976710657 : Int64))), .second, .val (.long (p1 - p1 / (281474976710656 : Int64) * (281474976710656 : Int64))), .second, .val (.long ((p0 - p0 / (281474976710657 : Int64) * (281474976710657 : Int64)) + (p1 - p1 / (281474976710656 : Int64) * (281474976710656 : Int64)))), .second, .val (.double (FP.l2d (281474976710656 : Int64))), .second, .val (.double (FP.ddiv (FP.l2d (p0 - p0 / (281474976710657 : Int64) * (281474976710657 : Int64))) (FP.l2d (281474976710656 : Int64)))), .second, .val (.double (FP.ddiv (FP.l2d ((p0 - p0 / (281474976710657 : Int64) * (281474976710657 : Int64)) + (p1 - p1 / (281474976710656 : Int64) * (281474976710656 : Int64)))) (FP.l2d (281474976710656 : Int64)))), .second, .val (.int (1 : Int32))] [(.double (FP.ddiv (FP.l2d (p0 - p0 / (281474976710657 : Int64) * (281474976710657 : Int64))) (FP.l2d (281474976710656 : Int64)))), (.double (FP.ddiv (FP.l2d ((p0 - p0 / (281474976710657 : Int64) * (281474976710657 : Int64)) + (p1 - p1 / (281474976710656 : Int64) * (281474976710656 : Int64)))) (FP.l2d (281474976710656 : Int64))))])) rfl (by rw [hml]; rfl) (argsL := [(.double (FP.ddiv (FP.l2d ((p0 - p0 / (281474976710657 : Int64) * (281474976710657 : Int64)) + (p1 - p1 / (281474976710656 : Int64) * (281474976710656 : Int64)))) (FP.l2d (281474976710656 : Int64)))), (.double (FP.ddiv (FP.l2d (p0 - p0 / (281474976710657 : Int64) * (281474976710657 : Int64))) (FP.l2d (281474976710656 : Int64))))]) (rest := []) (lenOf own_pd_0 rfl) rfl (by show 2 * 0 + _ ≤ _; exact Nat.le_of_eq rfl) (hb hby at_82) (fun _ _ => ⟨rfl, e0, (by decide : 0 + 0 ≤ _), (by decide : 0 + 0 ≤ _)⟩)
      dsimp only [Pt.U, Pt.locs, Pt.cells, Pt.slots] at X7 l7 y7 z7 st7 hQ7
      subst l7 y7 z7
      obtain ⟨Nq7, eh7, hv7⟩ := hQ7
      have N7 := Fr.app N0 Nq7
      have pre8 : ∀ t, Steps p.tables e below (s₁.setTop (mkF m 82 #[.val (.long p0), .second, .val (.long p1), .second, .val (.int p2), .val (.long (281474976710656 : Int64)), .second, .val (.long (p0 - p0 / (281474976710657 : Int64) * (281474976710657 : Int64))), .second, .val (.long (p1 - p1 / (281474976710656 : Int64) * (281474976710656 : Int64))), .second, .val (.long ((p0 - p0 / (281474976710657 : Int64) * (281474976710657 : Int64)) + (p1 - p1 / (281474976710656 : Int64) * (281474976710656 : Int64)))), .second, .val (.double (FP.l2d (281474976710656 : Int64))), .second, .val (.double (FP.ddiv (FP.l2d (p0 - p0 / (281474976710657 : Int64) * (281474976710657 : Int64))) (FP.l2d (281474976710656 : Int64)))), .second, .val (.double (FP.ddiv (FP.l2d ((p0 - p0 / (281474976710657 : Int64) * (281474976710657 : Int64)) + (p1 - p1 / (281474976710656 : Int64) * (281474976710656 : Int64)))) (FP.l2d (281474976710656 : Int64)))), .second, .val (.int (1 : Int32))] [(.double (FP.ddiv (FP.l2d (p0 - p0 / (281474976710657 : Int64) * (281474976710657 : Int64))) (FP.l2d (281474976710656 : Int64)))), (.double (FP.ddiv (FP.l2d ((p0 - p0 / (281474976710657 : Int64) * (281474976710657 : Int64)) + (p1 - p1 / (281474976710656 : Int64) * (281474976710656 : Int64)))) (FP.l2d (281474976710656 : Int64))))])) t → Steps p.tables e below (s₁.setTop (entryFrame m #[(.long p0), (.long p1), (.int p2)] maxLocals)) t := fun t kt => pre3 t (by
        show Steps p.tables e below (s₁.setTop (mkF m 68 #[.val (.long p0), .second, .val (.long p1), .second, .val (.int p2), .val (.long (281474976710656 : Int64)), .second, .val (.long (p0 - p0 / (281474976710657 : Int64) * (281474976710657 : Int64))), .second, .val (.long (p1 - p1 / (281474976710656 : Int64) * (281474976710656 : Int64))), .second, .val (.long ((p0 - p0 / (281474976710657 : Int64) * (281474976710657 : Int64)) + (p1 - p1 / (281474976710656 : Int64) * (281474976710656 : Int64)))), .second, .val (.double (FP.l2d (281474976710656 : Int64))), .second, .val (.double (FP.ddiv (FP.l2d (p0 - p0 / (281474976710657 : Int64) * (281474976710657 : Int64))) (FP.l2d (281474976710656 : Int64)))), .second, .val (.double (FP.ddiv (FP.l2d ((p0 - p0 / (281474976710657 : Int64) * (281474976710657 : Int64)) + (p1 - p1 / (281474976710656 : Int64) * (281474976710656 : Int64)))) (FP.l2d (281474976710656 : Int64)))), .second, .unset] [(.int (lcmpW (p1 - p1 / (281474976710656 : Int64) * (281474976710656 : Int64)) (282 : Int64)))])) _
        refine XS.ifNo X0.here hx rfl (hb hby at_68) rfl ((if0 _ _).trans (flt hc4).1) ?_
        show Steps p.tables e below (s₁.setTop (mkF m 71 #[.val (.long p0), .second, .val (.long p1), .second, .val (.int p2), .val (.long (281474976710656 : Int64)), .second, .val (.long (p0 - p0 / (281474976710657 : Int64) * (281474976710657 : Int64))), .second, .val (.long (p1 - p1 / (281474976710656 : Int64) * (281474976710656 : Int64))), .second, .val (.long ((p0 - p0 / (281474976710657 : Int64) * (281474976710657 : Int64)) + (p1 - p1 / (281474976710656 : Int64) * (281474976710656 : Int64)))), .second, .val (.double (FP.l2d (281474976710656 : Int64))), .second, .val (.double (FP.ddiv (FP.l2d (p0 - p0 / (281474976710657 : Int64) * (281474976710657 : Int64))) (FP.l2d (281474976710656 : Int64)))), .second, .val (.double (FP.ddiv (FP.l2d ((p0 - p0 / (281474976710657 : Int64) * (281474976710657 : Int64)) + (p1 - p1 / (281474976710656 : Int64) * (281474976710656 : Int64)))) (FP.l2d (281474976710656 : Int64)))), .second, .unset] [])) _
        refine XS.iconst X0.here hx rfl (hb hby at_71) ?_
        show Steps p.tables e below (s₁.setTop (mkF m 72 #[.val (.long p0), .second, .val (.long p1), .second, .val (.int p2), .val (.long (281474976710656 : Int64)), .second, .val (.long (p0 - p0 / (281474976710657 : Int64) * (281474976710657 : Int64))), .second, .val (.long (p1 - p1 / (281474976710656 : Int64) * (281474976710656 : Int64))), .second, .val (.long ((p0 - p0 / (281474976710657 : Int64) * (281474976710657 : Int64)) + (p1 - p1 / (281474976710656 : Int64) * (281474976710656 : Int64)))), .second, .val (.double (FP.l2d (281474976710656 : Int64))), .second, .val (.double (FP.ddiv (FP.l2d (p0 - p0 / (281474976710657 : Int64) * (281474976710657 : Int64))) (FP.l2d (281474976710656 : Int64)))), .second, .val (.double (FP.ddiv (FP.l2d ((p0 - p0 / (281474976710657 : Int64) * (281474976710657 : Int64)) + (p1 - p1 / (281474976710656 : Int64) * (281474976710656 : Int64)))) (FP.l2d (281474976710656 : Int64)))), .second, .unset] [(.int (1 : Int32))])) _
        refine XS.goto X0.here hx rfl (pc0 := 72) (pc' := 76) rfl (hb hby at_72) (by decide) (by decide) ?_
        show Steps p.tables e below (s₁.setTop (mkF m 76 #[.val (.long p0), .second, .val (.long p1), .second, .val (.int p2), .val (.long (281474976710656 : Int64)), .second, .val (.long (p0 - p0 / (281474976710657 : Int64) * (281474976710657 : Int64))), .second, .val (.long (p1 - p1 / (281474976710656 : Int64) * (281474976710656 : Int64))), .second, .val (.long ((p0 - p0 / (281474976710657 : Int64) * (281474976710657 : Int64)) + (p1 - p1 / (281474976710656 : Int64) * (281474976710656 : Int64)))), .second, .val (.double (FP.l2d (281474976710656 : Int64))), .second, .val (.double (FP.ddiv (FP.l2d (p0 - p0 / (281474976710657 : Int64) * (281474976710657 : Int64))) (FP.l2d (281474976710656 : Int64)))), .second, .val (.double (FP.ddiv (FP.l2d ((p0 - p0 / (281474976710657 : Int64) * (281474976710657 : Int64)) + (p1 - p1 / (281474976710656 : Int64) * (281474976710656 : Int64)))) (FP.l2d (281474976710656 : Int64)))), .second, .unset] [(.int (1 : Int32))])) _
        refine XS.istore X0.here hx rfl (hb hby at_76) rfl (l' := #[.val (.long p0), .second, .val (.long p1), .second, .val (.int p2), .val (.long (281474976710656 : Int64)), .second, .val (.long (p0 - p0 / (281474976710657 : Int64) * (281474976710657 : Int64))), .second, .val (.long (p1 - p1 / (281474976710656 : Int64) * (281474976710656 : Int64))), .second, .val (.long ((p0 - p0 / (281474976710657 : Int64) * (281474976710657 : Int64)) + (p1 - p1 / (281474976710656 : Int64) * (281474976710656 : Int64)))), .second, .val (.double (FP.l2d (281474976710656 : Int64))), .second, .val (.double (FP.ddiv (FP.l2d (p0 - p0 / (281474976710657 : Int64) * (281474976710657 : Int64))) (FP.l2d (281474976710656 : Int64)))), .second, .val (.double (FP.ddiv (FP.l2d ((p0 - p0 / (281474976710657 : Int64) * (281474976710657 : Int64)) + (p1 - p1 / (281474976710656 : Int64) * (281474976710656 : Int64)))) (FP.l2d (281474976710656 : Int64)))), .second, .val (.int (1 : Int32))]) rfl ?_
        show Steps p.tables e below (s₁.setTop (mkF m 78 #[.val (.long p0), .second, .val (.long p1), .second, .val (.int p2), .val (.long (281474976710656 : Int64)), .second, .val (.long (p0 - p0 / (281474976710657 : Int64) * (281474976710657 : Int64))), .second, .val (.long (p1 - p1 / (281474976710656 : Int64) * (281474976710656 : Int64))), .second, .val (.long ((p0 - p0 / (281474976710657 : Int64) * (281474976710657 : Int64)) + (p1 - p1 / (281474976710656 : Int64) * (281474976710656 : Int64)))), .second, .val (.double (FP.l2d (281474976710656 : Int64))), .second, .val (.double (FP.ddiv (FP.l2d (p0 - p0 / (281474976710657 : Int64) * (281474976710657 : Int64))) (FP.l2d (281474976710656 : Int64)))), .second, .val (.double (FP.ddiv (FP.l2d ((p0 - p0 / (281474976710657 : Int64) * (281474976710657 : Int64)) + (p1 - p1 / (281474976710656 : Int64) * (281474976710656 : Int64)))) (FP.l2d (281474976710656 : Int64)))), .second, .val (.int (1 : Int32))] [])) _
        refine XS.dload X0.here hx rfl (hb hby at_78) rfl ?_
        show Steps p.tables e below (s₁.setTop (mkF m 80 #[.val (.long p0), .second, .val (.long p1), .second, .val (.int p2), .val (.long (281474976710656 : Int64)), .second, .val (.long (p0 - p0 / (281474976710657 : Int64) * (281474976710657 : Int64))), .second, .val (.long (p1 - p1 / (281474976710656 : Int64) * (281474976710656 : Int64))), .second, .val (.long ((p0 - p0 / (281474976710657 : Int64) * (281474976710657 : Int64)) + (p1 - p1 / (281474976710656 : Int64) * (281474976710656 : Int64)))), .second, .val (.double (FP.l2d (281474976710656 : Int64))), .second, .val (.double (FP.ddiv (FP.l2d (p0 - p0 / (281474976710657 : Int64) * (281474976710657 : Int64))) (FP.l2d (281474976710656 : Int64)))), .second, .val (.double (FP.ddiv (FP.l2d ((p0 - p0 / (281474976710657 : Int64) * (281474976710657 : Int64)) + (p1 - p1 / (281474976710656 : Int64) * (281474976710656 : Int64)))) (FP.l2d (281474976710656 : Int64)))), .second, .val (.int (1 : Int32))] [(.double (FP.ddiv (FP.l2d ((p0 - p0 / (281474976710657 : Int64) * (281474976710657 : Int64)) + (p1 - p1 / (281474976710656 : Int64) * (281474976710656 : Int64)))) (FP.l2d (281474976710656 : Int64))))])) _
        refine XS.dload X0.here hx rfl (hb hby at_80) rfl ?_
        exact kt)
      rcases hv7 with ⟨hv7, hd7_0⟩ | ⟨hv7, hd7_0⟩
      · subst hv7
        obtain ⟨fs, hr, hrun, hended, hW, hsame⟩ := X7.leave (v := (some (.int (1 : Int32)))) (fun h => by rw [Bd.returns] at h; cases h)
        refine ⟨_, _, pre8 _ ?_, hrun, hended, _, _, rfl, ?_, ⟨_, rfl⟩, hW, hsame.mono (by decide) (by decide)⟩
        · show Steps p.tables e below (s₁.setTop (mkF m 82 #[.val (.long p0), .second, .val (.long p1), .second, .val (.int p2), .val (.long (281474976710656 : Int64)), .second, .val (.long (p0 - p0 / (281474976710657 : Int64) * (281474976710657 : Int64))), .second, .val (.long (p1 - p1 / (281474976710656 : Int64) * (281474976710656 : Int64))), .second, .val (.long ((p0 - p0 / (281474976710657 : Int64) * (281474976710657 : Int64)) + (p1 - p1 / (281474976710656 : Int64) * (281474976710656 : Int64)))), .second, .val (.double (FP.l2d (281474976710656 : Int64))), .second, .val (.double (FP.ddiv (FP.l2d (p0 - p0 / (281474976710657 : Int64) * (281474976710657 : Int64))) (FP.l2d (281474976710656 : Int64)))), .second, .val (.double (FP.ddiv (FP.l2d ((p0 - p0 / (281474976710657 : Int64) * (281474976710657 : Int64)) + (p1 - p1 / (281474976710656 : Int64) * (281474976710656 : Int64)))) (FP.l2d (281474976710656 : Int64)))), .second, .val (.int (1 : Int32))] [(.double (FP.ddiv (FP.l2d (p0 - p0 / (281474976710657 : Int64) * (281474976710657 : Int64))) (FP.l2d (281474976710656 : Int64)))), (.double (FP.ddiv (FP.l2d ((p0 - p0 / (281474976710657 : Int64) * (281474976710657 : Int64)) + (p1 - p1 / (281474976710656 : Int64) * (281474976710656 : Int64)))) (FP.l2d (281474976710656 : Int64))))])) _
          refine st7 _ ?_
          show Steps p.tables e below (T7.setTop (mkF m 85 #[.val (.long p0), .second, .val (.long p1), .second, .val (.int p2), .val (.long (281474976710656 : Int64)), .second, .val (.long (p0 - p0 / (281474976710657 : Int64) * (281474976710657 : Int64))), .second, .val (.long (p1 - p1 / (281474976710656 : Int64) * (281474976710656 : Int64))), .second, .val (.long ((p0 - p0 / (281474976710657 : Int64) * (281474976710657 : Int64)) + (p1 - p1 / (281474976710656 : Int64) * (281474976710656 : Int64)))), .second, .val (.double (FP.l2d (281474976710656 : Int64))), .second, .val (.double (FP.ddiv (FP.l2d (p0 - p0 / (281474976710657 : Int64) * (281474976710657 : Int64))) (FP.l2d (281474976710656 : Int64)))), .second, .val (.double (FP.ddiv (FP.l2d ((p0 - p0 / (281474976710657 : Int64) * (281474976710657 : Int64)) + (p1 - p1 / (281474976710656 : Int64) * (281474976710656 : Int64)))) (FP.l2d (281474976710656 : Int64)))), .second, .val (.int (1 : Int32))] [(.int (1 : Int32))])) _
          refine XS.iload X7.here hx rfl (hb hby at_85) rfl ?_
          show Steps p.tables e below (T7.setTop (mkF m 87 #[.val (.long p0), .second, .val (.long p1), .second, .val (.int p2), .val (.long (281474976710656 : Int64)), .second, .val (.long (p0 - p0 / (281474976710657 : Int64) * (281474976710657 : Int64))), .second, .val (.long (p1 - p1 / (281474976710656 : Int64) * (281474976710656 : Int64))), .second, .val (.long ((p0 - p0 / (281474976710657 : Int64) * (281474976710657 : Int64)) + (p1 - p1 / (281474976710656 : Int64) * (281474976710656 : Int64)))), .second, .val (.double (FP.l2d (281474976710656 : Int64))), .second, .val (.double (FP.ddiv (FP.l2d (p0 - p0 / (281474976710657 : Int64) * (281474976710657 : Int64))) (FP.l2d (281474976710656 : Int64)))), .second, .val (.double (FP.ddiv (FP.l2d ((p0 - p0 / (281474976710657 : Int64) * (281474976710657 : Int64)) + (p1 - p1 / (281474976710656 : Int64) * (281474976710656 : Int64)))) (FP.l2d (281474976710656 : Int64)))), .second, .val (.int (1 : Int32))] [(.int (1 : Int32)), (.int (1 : Int32))])) _
          refine XS.icmpNo X7.here hx rfl (hb hby at_87) rfl (by decide) ?_
          show Steps p.tables e below (T7.setTop (mkF m 90 #[.val (.long p0), .second, .val (.long p1), .second, .val (.int p2), .val (.long (281474976710656 : Int64)), .second, .val (.long (p0 - p0 / (281474976710657 : Int64) * (281474976710657 : Int64))), .second, .val (.long (p1 - p1 / (281474976710656 : Int64) * (281474976710656 : Int64))), .second, .val (.long ((p0 - p0 / (281474976710657 : Int64) * (281474976710657 : Int64)) + (p1 - p1 / (281474976710656 : Int64) * (281474976710656 : Int64)))), .second, .val (.double (FP.l2d (281474976710656 : Int64))), .second, .val (.double (FP.ddiv (FP.l2d (p0 - p0 / (281474976710657 : Int64) * (281474976710657 : Int64))) (FP.l2d (281474976710656 : Int64)))), .second, .val (.double (FP.ddiv (FP.l2d ((p0 - p0 / (281474976710657 : Int64) * (281474976710657 : Int64)) + (p1 - p1 / (281474976710656 : Int64) * (281474976710656 : Int64)))) (FP.l2d (281474976710656 : Int64)))), .second, .val (.int (1 : Int32))] [])) _
          refine XS.iconst X7.here hx rfl (hb hby at_90) ?_
          show Steps p.tables e below (T7.setTop (mkF m 91 #[.val (.long p0), .second, .val (.long p1), .second, .val (.int p2), .val (.long (281474976710656 : Int64)), .second, .val (.long (p0 - p0 / (281474976710657 : Int64) * (281474976710657 : Int64))), .second, .val (.long (p1 - p1 / (281474976710656 : Int64) * (281474976710656 : Int64))), .second, .val (.long ((p0 - p0 / (281474976710657 : Int64) * (281474976710657 : Int64)) + (p1 - p1 / (281474976710656 : Int64) * (281474976710656 : Int64)))), .second, .val (.double (FP.l2d (281474976710656 : Int64))), .second, .val (.double (FP.ddiv (FP.l2d (p0 - p0 / (281474976710657 : Int64) * (281474976710657 : Int64))) (FP.l2d (281474976710656 : Int64)))), .second, .val (.double (FP.ddiv (FP.l2d ((p0 - p0 / (281474976710657 : Int64) * (281474976710657 : Int64)) + (p1 - p1 / (281474976710656 : Int64) * (281474976710656 : Int64)))) (FP.l2d (281474976710656 : Int64)))), .second, .val (.int (1 : Int32))] [(.int (1 : Int32))])) _
          refine XS.goto X7.here hx rfl (pc0 := 91) (pc' := 95) rfl (hb hby at_91) (by decide) (by decide) ?_
          show Steps p.tables e below (T7.setTop (mkF m 95 #[.val (.long p0), .second, .val (.long p1), .second, .val (.int p2), .val (.long (281474976710656 : Int64)), .second, .val (.long (p0 - p0 / (281474976710657 : Int64) * (281474976710657 : Int64))), .second, .val (.long (p1 - p1 / (281474976710656 : Int64) * (281474976710656 : Int64))), .second, .val (.long ((p0 - p0 / (281474976710657 : Int64) * (281474976710657 : Int64)) + (p1 - p1 / (281474976710656 : Int64) * (281474976710656 : Int64)))), .second, .val (.double (FP.l2d (281474976710656 : Int64))), .second, .val (.double (FP.ddiv (FP.l2d (p0 - p0 / (281474976710657 : Int64) * (281474976710657 : Int64))) (FP.l2d (281474976710656 : Int64)))), .second, .val (.double (FP.ddiv (FP.l2d ((p0 - p0 / (281474976710657 : Int64) * (281474976710657 : Int64)) + (p1 - p1 / (281474976710656 : Int64) * (281474976710656 : Int64)))) (FP.l2d (281474976710656 : Int64)))), .second, .val (.int (1 : Int32))] [(.int (1 : Int32))])) _
          exact retN X7 hx (t := .boolean) Bd.returns (by simp) (hb hby at_95) hr
        · show Q0 Z p0 p1 p2 h0 n0 _ T7.heap _
          rw [eh7]
          exact ⟨N7, rfl⟩
      · subst hv7
        exfalso
        have q := mt (own_higher (own_rem rfl (by decide) (by decide)) (own_rem rfl (by decide) (by decide))).mpr hd7_0
        have r := mt (lw_lt _ _).mpr hc4
        rw [Int64.lt_iff_toInt_lt] at r
        have e2 : (282 : Int64).toInt = 282 := rfl
        omega
  · skip
    have pre9 : ∀ t, Steps p.tables e below (s₁.setTop (mkF m 68 #[.val (.long p0), .second, .val (.long p1), .second, .val (.int p2), .val (.long (281474976710656 : Int64)), .second, .val (.long (p0 - p0 / (281474976710657 : Int64) * (281474976710657 : Int64))), .second, .val (.long (p1 - p1 / (1024 : Int64) * (1024 : Int64))), .second, .val (.long ((p0 - p0 / (281474976710657 : Int64) * (281474976710657 : Int64)) + (p1 - p1 / (1024 : Int64) * (1024 : Int64)))), .second, .val (.double (FP.l2d (281474976710656 : Int64))), .second, .val (.double (FP.ddiv (FP.l2d (p0 - p0 / (281474976710657 : Int64) * (281474976710657 : Int64))) (FP.l2d (281474976710656 : Int64)))), .second, .val (.double (FP.ddiv (FP.l2d ((p0 - p0 / (281474976710657 : Int64) * (281474976710657 : Int64)) + (p1 - p1 / (1024 : Int64) * (1024 : Int64)))) (FP.l2d (281474976710656 : Int64)))), .second, .unset] [(.int (lcmpW (p1 - p1 / (1024 : Int64) * (1024 : Int64)) (282 : Int64)))])) t → Steps p.tables e below (s₁.setTop (entryFrame m #[(.long p0), (.long p1), (.int p2)] maxLocals)) t := fun t kt => pre1 t (by
      show Steps p.tables e below (s₁.setTop (mkF m 17 #[.val (.long p0), .second, .val (.long p1), .second, .val (.int p2), .val (.long (281474976710656 : Int64)), .second, .val (.long (p0 - p0 / (281474976710657 : Int64) * (281474976710657 : Int64))), .second, .unset, .unset, .unset, .unset, .unset, .unset, .unset, .unset, .unset, .unset, .unset] [(.int (p2 &&& (1 : Int32)))])) _
      refine XS.ifNo X0.here hx rfl (hb hby at_17) rfl ((if0 _ _).trans (feq hc2).1) ?_
      show Steps p.tables e below (s₁.setTop (mkF m 20 #[.val (.long p0), .second, .val (.long p1), .second, .val (.int p2), .val (.long (281474976710656 : Int64)), .second, .val (.long (p0 - p0 / (281474976710657 : Int64) * (281474976710657 : Int64))), .second, .unset, .unset, .unset, .unset, .unset, .unset, .unset, .unset, .unset, .unset, .unset] [])) _
      refine XS.lloadN X0.here hx rfl (hb hby at_20) rfl ?_
      show Steps p.tables e below (s₁.setTop (mkF m 21 #[.val (.long p0), .second, .val (.long p1), .second, .val (.int p2), .val (.long (281474976710656 : Int64)), .second, .val (.long (p0 - p0 / (281474976710657 : Int64) * (281474976710657 : Int64))), .second, .unset, .unset, .unset, .unset, .unset, .unset, .unset, .unset, .unset, .unset, .unset] [(.long p1)])) _
      refine X0.ldc2Long hx hown (mvT hZ (own_k hw 7 rfl)) (g := (mkF m 21 #[.val (.long p0), .second, .val (.long p1), .second, .val (.int p2), .val (.long (281474976710656 : Int64)), .second, .val (.long (p0 - p0 / (281474976710657 : Int64) * (281474976710657 : Int64))), .second, .unset, .unset, .unset, .unset, .unset, .unset, .unset, .unset, .unset, .unset, .unset] [(.long p1)])) rfl (hb hby at_21) _ ?_
      show Steps p.tables e below (s₁.setTop (mkF m 24 #[.val (.long p0), .second, .val (.long p1), .second, .val (.int p2), .val (.long (281474976710656 : Int64)), .second, .val (.long (p0 - p0 / (281474976710657 : Int64) * (281474976710657 : Int64))), .second, .unset, .unset, .unset, .unset, .unset, .unset, .unset, .unset, .unset, .unset, .unset] [(.long (1024 : Int64)), (.long p1)])) _
      refine XS.lrem X0.here hx rfl (hb hby at_24) rfl (by decide) ?_
      show Steps p.tables e below (s₁.setTop (mkF m 25 #[.val (.long p0), .second, .val (.long p1), .second, .val (.int p2), .val (.long (281474976710656 : Int64)), .second, .val (.long (p0 - p0 / (281474976710657 : Int64) * (281474976710657 : Int64))), .second, .unset, .unset, .unset, .unset, .unset, .unset, .unset, .unset, .unset, .unset, .unset] [(.long (p1 - p1 / (1024 : Int64) * (1024 : Int64)))])) _
      refine XS.goto X0.here hx rfl (pc0 := 25) (pc' := 32) rfl (hb hby at_25) (by decide) (by decide) ?_
      show Steps p.tables e below (s₁.setTop (mkF m 32 #[.val (.long p0), .second, .val (.long p1), .second, .val (.int p2), .val (.long (281474976710656 : Int64)), .second, .val (.long (p0 - p0 / (281474976710657 : Int64) * (281474976710657 : Int64))), .second, .unset, .unset, .unset, .unset, .unset, .unset, .unset, .unset, .unset, .unset, .unset] [(.long (p1 - p1 / (1024 : Int64) * (1024 : Int64)))])) _
      refine XS.lstore X0.here hx rfl (hb hby at_32) rfl (l' := #[.val (.long p0), .second, .val (.long p1), .second, .val (.int p2), .val (.long (281474976710656 : Int64)), .second, .val (.long (p0 - p0 / (281474976710657 : Int64) * (281474976710657 : Int64))), .second, .val (.long (p1 - p1 / (1024 : Int64) * (1024 : Int64))), .second, .unset, .unset, .unset, .unset, .unset, .unset, .unset, .unset, .unset]) rfl ?_
      show Steps p.tables e below (s₁.setTop (mkF m 34 #[.val (.long p0), .second, .val (.long p1), .second, .val (.int p2), .val (.long (281474976710656 : Int64)), .second, .val (.long (p0 - p0 / (281474976710657 : Int64) * (281474976710657 : Int64))), .second, .val (.long (p1 - p1 / (1024 : Int64) * (1024 : Int64))), .second, .unset, .unset, .unset, .unset, .unset, .unset, .unset, .unset, .unset] [])) _
      refine XS.lload X0.here hx rfl (hb hby at_34) rfl ?_
      show Steps p.tables e below (s₁.setTop (mkF m 36 #[.val (.long p0), .second, .val (.long p1), .second, .val (.int p2), .val (.long (281474976710656 : Int64)), .second, .val (.long (p0 - p0 / (281474976710657 : Int64) * (281474976710657 : Int64))), .second, .val (.long (p1 - p1 / (1024 : Int64) * (1024 : Int64))), .second, .unset, .unset, .unset, .unset, .unset, .unset, .unset, .unset, .unset] [(.long (p0 - p0 / (281474976710657 : Int64) * (281474976710657 : Int64)))])) _
      refine XS.lload X0.here hx rfl (hb hby at_36) rfl ?_
      show Steps p.tables e below (s₁.setTop (mkF m 38 #[.val (.long p0), .second, .val (.long p1), .second, .val (.int p2), .val (.long (281474976710656 : Int64)), .second, .val (.long (p0 - p0 / (281474976710657 : Int64) * (281474976710657 : Int64))), .second, .val (.long (p1 - p1 / (1024 : Int64) * (1024 : Int64))), .second, .unset, .unset, .unset, .unset, .unset, .unset, .unset, .unset, .unset] [(.long (p1 - p1 / (1024 : Int64) * (1024 : Int64))), (.long (p0 - p0 / (281474976710657 : Int64) * (281474976710657 : Int64)))])) _
      refine XS.ladd X0.here hx rfl (hb hby at_38) rfl ?_
      show Steps p.tables e below (s₁.setTop (mkF m 39 #[.val (.long p0), .second, .val (.long p1), .second, .val (.int p2), .val (.long (281474976710656 : Int64)), .second, .val (.long (p0 - p0 / (281474976710657 : Int64) * (281474976710657 : Int64))), .second, .val (.long (p1 - p1 / (1024 : Int64) * (1024 : Int64))), .second, .unset, .unset, .unset, .unset, .unset, .unset, .unset, .unset, .unset] [(.long ((p0 - p0 / (281474976710657 : Int64) * (281474976710657 : Int64)) + (p1 - p1 / (1024 : Int64) * (1024 : Int64))))])) _
      refine XS.lstore X0.here hx rfl (hb hby at_39) rfl (l' := #[.val (.long p0), .second, .val (.long p1), .second, .val (.int p2), .val (.long (281474976710656 : Int64)), .second, .val (.long (p0 - p0 / (281474976710657 : Int64) * (281474976710657 : Int64))), .second, .val (.long (p1 - p1 / (1024 : Int64) * (1024 : Int64))), .second, .val (.long ((p0 - p0 / (281474976710657 : Int64) * (281474976710657 : Int64)) + (p1 - p1 / (1024 : Int64) * (1024 : Int64)))), .second, .unset, .unset, .unset, .unset, .unset, .unset, .unset]) rfl ?_
      show Steps p.tables e below (s₁.setTop (mkF m 41 #[.val (.long p0), .second, .val (.long p1), .second, .val (.int p2), .val (.long (281474976710656 : Int64)), .second, .val (.long (p0 - p0 / (281474976710657 : Int64) * (281474976710657 : Int64))), .second, .val (.long (p1 - p1 / (1024 : Int64) * (1024 : Int64))), .second, .val (.long ((p0 - p0 / (281474976710657 : Int64) * (281474976710657 : Int64)) + (p1 - p1 / (1024 : Int64) * (1024 : Int64)))), .second, .unset, .unset, .unset, .unset, .unset, .unset, .unset] [])) _
      refine XS.lload X0.here hx rfl (hb hby at_41) rfl ?_
      show Steps p.tables e below (s₁.setTop (mkF m 43 #[.val (.long p0), .second, .val (.long p1), .second, .val (.int p2), .val (.long (281474976710656 : Int64)), .second, .val (.long (p0 - p0 / (281474976710657 : Int64) * (281474976710657 : Int64))), .second, .val (.long (p1 - p1 / (1024 : Int64) * (1024 : Int64))), .second, .val (.long ((p0 - p0 / (281474976710657 : Int64) * (281474976710657 : Int64)) + (p1 - p1 / (1024 : Int64) * (1024 : Int64)))), .second, .unset, .unset, .unset, .unset, .unset, .unset, .unset] [(.long (281474976710656 : Int64))])) _
      refine XS.l2dS X0.here hx rfl (hb hby at_43) rfl (v := FP.l2d (281474976710656 : Int64)) rfl ?_
      show Steps p.tables e below (s₁.setTop (mkF m 44 #[.val (.long p0), .second, .val (.long p1), .second, .val (.int p2), .val (.long (281474976710656 : Int64)), .second, .val (.long (p0 - p0 / (281474976710657 : Int64) * (281474976710657 : Int64))), .second, .val (.long (p1 - p1 / (1024 : Int64) * (1024 : Int64))), .second, .val (.long ((p0 - p0 / (281474976710657 : Int64) * (281474976710657 : Int64)) + (p1 - p1 / (1024 : Int64) * (1024 : Int64)))), .second, .unset, .unset, .unset, .unset, .unset, .unset, .unset] [(.double (FP.l2d (281474976710656 : Int64)))])) _
      refine XS.dstore X0.here hx rfl (hb hby at_44) rfl (l' := #[.val (.long p0), .second, .val (.long p1), .second, .val (.int p2), .val (.long (281474976710656 : Int64)), .second, .val (.long (p0 - p0 / (281474976710657 : Int64) * (281474976710657 : Int64))), .second, .val (.long (p1 - p1 / (1024 : Int64) * (1024 : Int64))), .second, .val (.long ((p0 - p0 / (281474976710657 : Int64) * (281474976710657 : Int64)) + (p1 - p1 / (1024 : Int64) * (1024 : Int64)))), .second, .val (.double (FP.l2d (281474976710656 : Int64))), .second, .unset, .unset, .unset, .unset, .unset]) rfl ?_
      show Steps p.tables e below (s₁.setTop (mkF m 46 #[.val (.long p0), .second, .val (.long p1), .second, .val (.int p2), .val (.long (281474976710656 : Int64)), .second, .val (.long (p0 - p0 / (281474976710657 : Int64) * (281474976710657 : Int64))), .second, .val (.long (p1 - p1 / (1024 : Int64) * (1024 : Int64))), .second, .val (.long ((p0 - p0 / (281474976710657 : Int64) * (281474976710657 : Int64)) + (p1 - p1 / (1024 : Int64) * (1024 : Int64)))), .second, .val (.double (FP.l2d (281474976710656 : Int64))), .second, .unset, .unset, .unset, .unset, .unset] [])) _
      refine XS.lload X0.here hx rfl (hb hby at_46) rfl ?_
      show Steps p.tables e below (s₁.setTop (mkF m 48 #[.val (.long p0), .second, .val (.long p1), .second, .val (.int p2), .val (.long (281474976710656 : Int64)), .second, .val (.long (p0 - p0 / (281474976710657 : Int64) * (281474976710657 : Int64))), .second, .val (.long (p1 - p1 / (1024 : Int64) * (1024 : Int64))), .second, .val (.long ((p0 - p0 / (281474976710657 : Int64) * (281474976710657 : Int64)) + (p1 - p1 / (1024 : Int64) * (1024 : Int64)))), .second, .val (.double (FP.l2d (281474976710656 : Int64))), .second, .unset, .unset, .unset, .unset, .unset] [(.long (p0 - p0 / (281474976710657 : Int64) * (281474976710657 : Int64)))])) _
      refine XS.l2dS X0.here hx rfl (hb hby at_48) rfl (v := FP.l2d (p0 - p0 / (281474976710657 : Int64) * (281474976710657 : Int64))) rfl ?_
      show Steps p.tables e below (s₁.setTop (mkF m 49 #[.val (.long p0), .second, .val (.long p1), .second, .val (.int p2), .val (.long (281474976710656 : Int64)), .second, .val (.long (p0 - p0 / (281474976710657 : Int64) * (281474976710657 : Int64))), .second, .val (.long (p1 - p1 / (1024 : Int64) * (1024 : Int64))), .second, .val (.long ((p0 - p0 / (281474976710657 : Int64) * (281474976710657 : Int64)) + (p1 - p1 / (1024 : Int64) * (1024 : Int64)))), .second, .val (.double (FP.l2d (281474976710656 : Int64))), .second, .unset, .unset, .unset, .unset, .unset] [(.double (FP.l2d (p0 - p0 / (281474976710657 : Int64) * (281474976710657 : Int64))))])) _
      refine XS.dload X0.here hx rfl (hb hby at_49) rfl ?_
      show Steps p.tables e below (s₁.setTop (mkF m 51 #[.val (.long p0), .second, .val (.long p1), .second, .val (.int p2), .val (.long (281474976710656 : Int64)), .second, .val (.long (p0 - p0 / (281474976710657 : Int64) * (281474976710657 : Int64))), .second, .val (.long (p1 - p1 / (1024 : Int64) * (1024 : Int64))), .second, .val (.long ((p0 - p0 / (281474976710657 : Int64) * (281474976710657 : Int64)) + (p1 - p1 / (1024 : Int64) * (1024 : Int64)))), .second, .val (.double (FP.l2d (281474976710656 : Int64))), .second, .unset, .unset, .unset, .unset, .unset] [(.double (FP.l2d (281474976710656 : Int64))), (.double (FP.l2d (p0 - p0 / (281474976710657 : Int64) * (281474976710657 : Int64))))])) _
      refine XS.ddivS X0.here hx rfl (hb hby at_51) rfl (own_nnq _) (v := (FP.ddiv (FP.l2d (p0 - p0 / (281474976710657 : Int64) * (281474976710657 : Int64))) (FP.l2d (281474976710656 : Int64)))) rfl ?_
      show Steps p.tables e below (s₁.setTop (mkF m 52 #[.val (.long p0), .second, .val (.long p1), .second, .val (.int p2), .val (.long (281474976710656 : Int64)), .second, .val (.long (p0 - p0 / (281474976710657 : Int64) * (281474976710657 : Int64))), .second, .val (.long (p1 - p1 / (1024 : Int64) * (1024 : Int64))), .second, .val (.long ((p0 - p0 / (281474976710657 : Int64) * (281474976710657 : Int64)) + (p1 - p1 / (1024 : Int64) * (1024 : Int64)))), .second, .val (.double (FP.l2d (281474976710656 : Int64))), .second, .unset, .unset, .unset, .unset, .unset] [(.double (FP.ddiv (FP.l2d (p0 - p0 / (281474976710657 : Int64) * (281474976710657 : Int64))) (FP.l2d (281474976710656 : Int64))))])) _
      refine XS.dstore X0.here hx rfl (hb hby at_52) rfl (l' := #[.val (.long p0), .second, .val (.long p1), .second, .val (.int p2), .val (.long (281474976710656 : Int64)), .second, .val (.long (p0 - p0 / (281474976710657 : Int64) * (281474976710657 : Int64))), .second, .val (.long (p1 - p1 / (1024 : Int64) * (1024 : Int64))), .second, .val (.long ((p0 - p0 / (281474976710657 : Int64) * (281474976710657 : Int64)) + (p1 - p1 / (1024 : Int64) * (1024 : Int64)))), .second, .val (.double (FP.l2d (281474976710656 : Int64))), .second, .val (.double (FP.ddiv (FP.l2d (p0 - p0 / (281474976710657 : Int64) * (281474976710657 : Int64))) (FP.l2d (281474976710656 : Int64)))), .second, .unset, .unset, .unset]) rfl ?_
      show Steps p.tables e below (s₁.setTop (mkF m 54 #[.val (.long p0), .second, .val (.long p1), .second, .val (.int p2), .val (.long (281474976710656 : Int64)), .second, .val (.long (p0 - p0 / (281474976710657 : Int64) * (281474976710657 : Int64))), .second, .val (.long (p1 - p1 / (1024 : Int64) * (1024 : Int64))), .second, .val (.long ((p0 - p0 / (281474976710657 : Int64) * (281474976710657 : Int64)) + (p1 - p1 / (1024 : Int64) * (1024 : Int64)))), .second, .val (.double (FP.l2d (281474976710656 : Int64))), .second, .val (.double (FP.ddiv (FP.l2d (p0 - p0 / (281474976710657 : Int64) * (281474976710657 : Int64))) (FP.l2d (281474976710656 : Int64)))), .second, .unset, .unset, .unset] [])) _
      refine XS.lload X0.here hx rfl (hb hby at_54) rfl ?_
      show Steps p.tables e below (s₁.setTop (mkF m 56 #[.val (.long p0), .second, .val (.long p1), .second, .val (.int p2), .val (.long (281474976710656 : Int64)), .second, .val (.long (p0 - p0 / (281474976710657 : Int64) * (281474976710657 : Int64))), .second, .val (.long (p1 - p1 / (1024 : Int64) * (1024 : Int64))), .second, .val (.long ((p0 - p0 / (281474976710657 : Int64) * (281474976710657 : Int64)) + (p1 - p1 / (1024 : Int64) * (1024 : Int64)))), .second, .val (.double (FP.l2d (281474976710656 : Int64))), .second, .val (.double (FP.ddiv (FP.l2d (p0 - p0 / (281474976710657 : Int64) * (281474976710657 : Int64))) (FP.l2d (281474976710656 : Int64)))), .second, .unset, .unset, .unset] [(.long ((p0 - p0 / (281474976710657 : Int64) * (281474976710657 : Int64)) + (p1 - p1 / (1024 : Int64) * (1024 : Int64))))])) _
      refine XS.l2dS X0.here hx rfl (hb hby at_56) rfl (v := FP.l2d ((p0 - p0 / (281474976710657 : Int64) * (281474976710657 : Int64)) + (p1 - p1 / (1024 : Int64) * (1024 : Int64)))) rfl ?_
      show Steps p.tables e below (s₁.setTop (mkF m 57 #[.val (.long p0), .second, .val (.long p1), .second, .val (.int p2), .val (.long (281474976710656 : Int64)), .second, .val (.long (p0 - p0 / (281474976710657 : Int64) * (281474976710657 : Int64))), .second, .val (.long (p1 - p1 / (1024 : Int64) * (1024 : Int64))), .second, .val (.long ((p0 - p0 / (281474976710657 : Int64) * (281474976710657 : Int64)) + (p1 - p1 / (1024 : Int64) * (1024 : Int64)))), .second, .val (.double (FP.l2d (281474976710656 : Int64))), .second, .val (.double (FP.ddiv (FP.l2d (p0 - p0 / (281474976710657 : Int64) * (281474976710657 : Int64))) (FP.l2d (281474976710656 : Int64)))), .second, .unset, .unset, .unset] [(.double (FP.l2d ((p0 - p0 / (281474976710657 : Int64) * (281474976710657 : Int64)) + (p1 - p1 / (1024 : Int64) * (1024 : Int64)))))])) _
      refine XS.dload X0.here hx rfl (hb hby at_57) rfl ?_
      show Steps p.tables e below (s₁.setTop (mkF m 59 #[.val (.long p0), .second, .val (.long p1), .second, .val (.int p2), .val (.long (281474976710656 : Int64)), .second, .val (.long (p0 - p0 / (281474976710657 : Int64) * (281474976710657 : Int64))), .second, .val (.long (p1 - p1 / (1024 : Int64) * (1024 : Int64))), .second, .val (.long ((p0 - p0 / (281474976710657 : Int64) * (281474976710657 : Int64)) + (p1 - p1 / (1024 : Int64) * (1024 : Int64)))), .second, .val (.double (FP.l2d (281474976710656 : Int64))), .second, .val (.double (FP.ddiv (FP.l2d (p0 - p0 / (281474976710657 : Int64) * (281474976710657 : Int64))) (FP.l2d (281474976710656 : Int64)))), .second, .unset, .unset, .unset] [(.double (FP.l2d (281474976710656 : Int64))), (.double (FP.l2d ((p0 - p0 / (281474976710657 : Int64) * (281474976710657 : Int64)) + (p1 - p1 / (1024 : Int64) * (1024 : Int64)))))])) _
      refine XS.ddivS X0.here hx rfl (hb hby at_59) rfl (own_nnq _) (v := (FP.ddiv (FP.l2d ((p0 - p0 / (281474976710657 : Int64) * (281474976710657 : Int64)) + (p1 - p1 / (1024 : Int64) * (1024 : Int64)))) (FP.l2d (281474976710656 : Int64)))) rfl ?_
      show Steps p.tables e below (s₁.setTop (mkF m 60 #[.val (.long p0), .second, .val (.long p1), .second, .val (.int p2), .val (.long (281474976710656 : Int64)), .second, .val (.long (p0 - p0 / (281474976710657 : Int64) * (281474976710657 : Int64))), .second, .val (.long (p1 - p1 / (1024 : Int64) * (1024 : Int64))), .second, .val (.long ((p0 - p0 / (281474976710657 : Int64) * (281474976710657 : Int64)) + (p1 - p1 / (1024 : Int64) * (1024 : Int64)))), .second, .val (.double (FP.l2d (281474976710656 : Int64))), .second, .val (.double (FP.ddiv (FP.l2d (p0 - p0 / (281474976710657 : Int64) * (281474976710657 : Int64))) (FP.l2d (281474976710656 : Int64)))), .second, .unset, .unset, .unset] [(.double (FP.ddiv (FP.l2d ((p0 - p0 / (281474976710657 : Int64) * (281474976710657 : Int64)) + (p1 - p1 / (1024 : Int64) * (1024 : Int64)))) (FP.l2d (281474976710656 : Int64))))])) _
      refine XS.dstore X0.here hx rfl (hb hby at_60) rfl (l' := #[.val (.long p0), .second, .val (.long p1), .second, .val (.int p2), .val (.long (281474976710656 : Int64)), .second, .val (.long (p0 - p0 / (281474976710657 : Int64) * (281474976710657 : Int64))), .second, .val (.long (p1 - p1 / (1024 : Int64) * (1024 : Int64))), .second, .val (.long ((p0 - p0 / (281474976710657 : Int64) * (281474976710657 : Int64)) + (p1 - p1 / (1024 : Int64) * (1024 : Int64)))), .second, .val (.double (FP.l2d (281474976710656 : Int64))), .second, .val (.double (FP.ddiv (FP.l2d (p0 - p0 / (281474976710657 : Int64) * (281474976710657 : Int64))) (FP.l2d (281474976710656 : Int64)))), .second, .val (.double (FP.ddiv (FP.l2d ((p0 - p0 / (281474976710657 : Int64) * (281474976710657 : Int64)) + (p1 - p1 / (1024 : Int64) * (1024 : Int64)))) (FP.l2d (281474976710656 : Int64)))), .second, .unset]) rfl ?_
      show Steps p.tables e below (s₁.setTop (mkF m 62 #[.val (.long p0), .second, .val (.long p1), .second, .val (.int p2), .val (.long (281474976710656 : Int64)), .second, .val (.long (p0 - p0 / (281474976710657 : Int64) * (281474976710657 : Int64))), .second, .val (.long (p1 - p1 / (1024 : Int64) * (1024 : Int64))), .second, .val (.long ((p0 - p0 / (281474976710657 : Int64) * (281474976710657 : Int64)) + (p1 - p1 / (1024 : Int64) * (1024 : Int64)))), .second, .val (.double (FP.l2d (281474976710656 : Int64))), .second, .val (.double (FP.ddiv (FP.l2d (p0 - p0 / (281474976710657 : Int64) * (281474976710657 : Int64))) (FP.l2d (281474976710656 : Int64)))), .second, .val (.double (FP.ddiv (FP.l2d ((p0 - p0 / (281474976710657 : Int64) * (281474976710657 : Int64)) + (p1 - p1 / (1024 : Int64) * (1024 : Int64)))) (FP.l2d (281474976710656 : Int64)))), .second, .unset] [])) _
      refine XS.lload X0.here hx rfl (hb hby at_62) rfl ?_
      show Steps p.tables e below (s₁.setTop (mkF m 64 #[.val (.long p0), .second, .val (.long p1), .second, .val (.int p2), .val (.long (281474976710656 : Int64)), .second, .val (.long (p0 - p0 / (281474976710657 : Int64) * (281474976710657 : Int64))), .second, .val (.long (p1 - p1 / (1024 : Int64) * (1024 : Int64))), .second, .val (.long ((p0 - p0 / (281474976710657 : Int64) * (281474976710657 : Int64)) + (p1 - p1 / (1024 : Int64) * (1024 : Int64)))), .second, .val (.double (FP.l2d (281474976710656 : Int64))), .second, .val (.double (FP.ddiv (FP.l2d (p0 - p0 / (281474976710657 : Int64) * (281474976710657 : Int64))) (FP.l2d (281474976710656 : Int64)))), .second, .val (.double (FP.ddiv (FP.l2d ((p0 - p0 / (281474976710657 : Int64) * (281474976710657 : Int64)) + (p1 - p1 / (1024 : Int64) * (1024 : Int64)))) (FP.l2d (281474976710656 : Int64)))), .second, .unset] [(.long (p1 - p1 / (1024 : Int64) * (1024 : Int64)))])) _
      refine X0.ldc2Long hx hown (mvT hZ (own_k hw 1 rfl)) (g := (mkF m 64 #[.val (.long p0), .second, .val (.long p1), .second, .val (.int p2), .val (.long (281474976710656 : Int64)), .second, .val (.long (p0 - p0 / (281474976710657 : Int64) * (281474976710657 : Int64))), .second, .val (.long (p1 - p1 / (1024 : Int64) * (1024 : Int64))), .second, .val (.long ((p0 - p0 / (281474976710657 : Int64) * (281474976710657 : Int64)) + (p1 - p1 / (1024 : Int64) * (1024 : Int64)))), .second, .val (.double (FP.l2d (281474976710656 : Int64))), .second, .val (.double (FP.ddiv (FP.l2d (p0 - p0 / (281474976710657 : Int64) * (281474976710657 : Int64))) (FP.l2d (281474976710656 : Int64)))), .second, .val (.double (FP.ddiv (FP.l2d ((p0 - p0 / (281474976710657 : Int64) * (281474976710657 : Int64)) + (p1 - p1 / (1024 : Int64) * (1024 : Int64)))) (FP.l2d (281474976710656 : Int64)))), .second, .unset] [(.long (p1 - p1 / (1024 : Int64) * (1024 : Int64)))])) rfl (hb hby at_64) _ ?_
      show Steps p.tables e below (s₁.setTop (mkF m 67 #[.val (.long p0), .second, .val (.long p1), .second, .val (.int p2), .val (.long (281474976710656 : Int64)), .second, .val (.long (p0 - p0 / (281474976710657 : Int64) * (281474976710657 : Int64))), .second, .val (.long (p1 - p1 / (1024 : Int64) * (1024 : Int64))), .second, .val (.long ((p0 - p0 / (281474976710657 : Int64) * (281474976710657 : Int64)) + (p1 - p1 / (1024 : Int64) * (1024 : Int64)))), .second, .val (.double (FP.l2d (281474976710656 : Int64))), .second, .val (.double (FP.ddiv (FP.l2d (p0 - p0 / (281474976710657 : Int64) * (281474976710657 : Int64))) (FP.l2d (281474976710656 : Int64)))), .second, .val (.double (FP.ddiv (FP.l2d ((p0 - p0 / (281474976710657 : Int64) * (281474976710657 : Int64)) + (p1 - p1 / (1024 : Int64) * (1024 : Int64)))) (FP.l2d (281474976710656 : Int64)))), .second, .unset] [(.long (282 : Int64)), (.long (p1 - p1 / (1024 : Int64) * (1024 : Int64)))])) _
      refine XS.lcmp X0.here hx rfl (hb hby at_67) rfl ?_
      exact kt)
    by_cases hc10 : (lcmpW (p1 - p1 / (1024 : Int64) * (1024 : Int64)) (282 : Int64)) < (0 : Int32)
    · skip
      obtain ⟨_, _, ⟨T11, L11, k11, n11⟩, -, X11, ⟨Lc11, hQ11, l11, y11, z11⟩, st11⟩ := Jvm.LawKit.callS X0 hx (y := (⟨"com/example/topics_into_queries/topicsintoqueries/SphericalKMeans", "higher", "(DD)Z"⟩ : MethodName)) hown (mvT hZ (own_k hw 2 rfl)) (mvT hZ (own_k hw 3 rfl)) (mvT hZ (own_k hw 4 rfl)) (mvT hZ (own_k hw 5 rfl)) (by decide) (backOf (W := 0) (rmHi l Z a0 hw [] (FP.ddiv (FP.l2d ((p0 - p0 / (281474976710657 : Int64) * (281474976710657 : Int64)) + (p1 - p1 / (1024 : Int64) * (1024 : Int64)))) (FP.l2d (281474976710656 : Int64))) (FP.ddiv (FP.l2d (p0 - p0 / (281474976710657 : Int64) * (281474976710657 : Int64))) (FP.l2d (281474976710656 : Int64))) h0 n0 Z0 (own_nns _)) hZ (own_k hw 5 rfl) (own_k hw 4 rfl) (by decide) (by decide)) (g := (mkF m 82 #[.val (.long p0), .second, .val (.long p1), .second, .val (.int p2), .val (.long (281474976710656 : Int64)), .second, .val (.long (p0 - p0 / (281474976710657 : Int64) * (281474976710657 : Int64))), .second, .val (.long (p1 - p1 / (1024 : Int64) * (1024 : Int64))), .second, .val (.long ((p0 - p0 / (281474976710657 : Int64) * (281474976710657 : Int64)) + (p1 - p1 / (1024 : Int64) * (1024 : Int64)))), .second, .val (.double (FP.l2d (281474976710656 : Int64))), .second, .val (.double (FP.ddiv (FP.l2d (p0 - p0 / (281474976710657 : Int64) * (281474976710657 : Int64))) (FP.l2d (281474976710656 : Int64)))), .second, .val (.double (FP.ddiv (FP.l2d ((p0 - p0 / (281474976710657 : Int64) * (281474976710657 : Int64)) + (p1 - p1 / (1024 : Int64) * (1024 : Int64)))) (FP.l2d (281474976710656 : Int64)))), .second, .val (.int (0 : Int32))] [(.double (FP.ddiv (FP.l2d (p0 - p0 / (281474976710657 : Int64) * (281474976710657 : Int64))) (FP.l2d (281474976710656 : Int64)))), (.double (FP.ddiv (FP.l2d ((p0 - p0 / (281474976710657 : Int64) * (281474976710657 : Int64)) + (p1 - p1 / (1024 : Int64) * (1024 : Int64)))) (FP.l2d (281474976710656 : Int64))))])) rfl (by rw [hml]; rfl) (argsL := [(.double (FP.ddiv (FP.l2d ((p0 - p0 / (281474976710657 : Int64) * (281474976710657 : Int64)) + (p1 - p1 / (1024 : Int64) * (1024 : Int64)))) (FP.l2d (281474976710656 : Int64)))), (.double (FP.ddiv (FP.l2d (p0 - p0 / (281474976710657 : Int64) * (281474976710657 : Int64))) (FP.l2d (281474976710656 : Int64))))]) (rest := []) (lenOf own_pd_0 rfl) rfl (by show 2 * 0 + _ ≤ _; exact Nat.le_of_eq rfl) (hb hby at_82) (fun _ _ => ⟨rfl, e0, (by decide : 0 + 0 ≤ _), (by decide : 0 + 0 ≤ _)⟩)
      dsimp only [Pt.U, Pt.locs, Pt.cells, Pt.slots] at X11 l11 y11 z11 st11 hQ11
      subst l11 y11 z11
      obtain ⟨Nq11, eh11, hv11⟩ := hQ11
      have N11 := Fr.app N0 Nq11
      have pre12 : ∀ t, Steps p.tables e below (s₁.setTop (mkF m 82 #[.val (.long p0), .second, .val (.long p1), .second, .val (.int p2), .val (.long (281474976710656 : Int64)), .second, .val (.long (p0 - p0 / (281474976710657 : Int64) * (281474976710657 : Int64))), .second, .val (.long (p1 - p1 / (1024 : Int64) * (1024 : Int64))), .second, .val (.long ((p0 - p0 / (281474976710657 : Int64) * (281474976710657 : Int64)) + (p1 - p1 / (1024 : Int64) * (1024 : Int64)))), .second, .val (.double (FP.l2d (281474976710656 : Int64))), .second, .val (.double (FP.ddiv (FP.l2d (p0 - p0 / (281474976710657 : Int64) * (281474976710657 : Int64))) (FP.l2d (281474976710656 : Int64)))), .second, .val (.double (FP.ddiv (FP.l2d ((p0 - p0 / (281474976710657 : Int64) * (281474976710657 : Int64)) + (p1 - p1 / (1024 : Int64) * (1024 : Int64)))) (FP.l2d (281474976710656 : Int64)))), .second, .val (.int (0 : Int32))] [(.double (FP.ddiv (FP.l2d (p0 - p0 / (281474976710657 : Int64) * (281474976710657 : Int64))) (FP.l2d (281474976710656 : Int64)))), (.double (FP.ddiv (FP.l2d ((p0 - p0 / (281474976710657 : Int64) * (281474976710657 : Int64)) + (p1 - p1 / (1024 : Int64) * (1024 : Int64)))) (FP.l2d (281474976710656 : Int64))))])) t → Steps p.tables e below (s₁.setTop (entryFrame m #[(.long p0), (.long p1), (.int p2)] maxLocals)) t := fun t kt => pre9 t (by
        show Steps p.tables e below (s₁.setTop (mkF m 68 #[.val (.long p0), .second, .val (.long p1), .second, .val (.int p2), .val (.long (281474976710656 : Int64)), .second, .val (.long (p0 - p0 / (281474976710657 : Int64) * (281474976710657 : Int64))), .second, .val (.long (p1 - p1 / (1024 : Int64) * (1024 : Int64))), .second, .val (.long ((p0 - p0 / (281474976710657 : Int64) * (281474976710657 : Int64)) + (p1 - p1 / (1024 : Int64) * (1024 : Int64)))), .second, .val (.double (FP.l2d (281474976710656 : Int64))), .second, .val (.double (FP.ddiv (FP.l2d (p0 - p0 / (281474976710657 : Int64) * (281474976710657 : Int64))) (FP.l2d (281474976710656 : Int64)))), .second, .val (.double (FP.ddiv (FP.l2d ((p0 - p0 / (281474976710657 : Int64) * (281474976710657 : Int64)) + (p1 - p1 / (1024 : Int64) * (1024 : Int64)))) (FP.l2d (281474976710656 : Int64)))), .second, .unset] [(.int (lcmpW (p1 - p1 / (1024 : Int64) * (1024 : Int64)) (282 : Int64)))])) _
        refine XS.ifYes X0.here hx rfl (pc0 := 68) (pc' := 75) rfl (hb hby at_68) rfl ((if0 _ _).trans (tlt hc10).1) (by decide) (by decide) ?_
        show Steps p.tables e below (s₁.setTop (mkF m 75 #[.val (.long p0), .second, .val (.long p1), .second, .val (.int p2), .val (.long (281474976710656 : Int64)), .second, .val (.long (p0 - p0 / (281474976710657 : Int64) * (281474976710657 : Int64))), .second, .val (.long (p1 - p1 / (1024 : Int64) * (1024 : Int64))), .second, .val (.long ((p0 - p0 / (281474976710657 : Int64) * (281474976710657 : Int64)) + (p1 - p1 / (1024 : Int64) * (1024 : Int64)))), .second, .val (.double (FP.l2d (281474976710656 : Int64))), .second, .val (.double (FP.ddiv (FP.l2d (p0 - p0 / (281474976710657 : Int64) * (281474976710657 : Int64))) (FP.l2d (281474976710656 : Int64)))), .second, .val (.double (FP.ddiv (FP.l2d ((p0 - p0 / (281474976710657 : Int64) * (281474976710657 : Int64)) + (p1 - p1 / (1024 : Int64) * (1024 : Int64)))) (FP.l2d (281474976710656 : Int64)))), .second, .unset] [])) _
        refine XS.iconst X0.here hx rfl (hb hby at_75) ?_
        show Steps p.tables e below (s₁.setTop (mkF m 76 #[.val (.long p0), .second, .val (.long p1), .second, .val (.int p2), .val (.long (281474976710656 : Int64)), .second, .val (.long (p0 - p0 / (281474976710657 : Int64) * (281474976710657 : Int64))), .second, .val (.long (p1 - p1 / (1024 : Int64) * (1024 : Int64))), .second, .val (.long ((p0 - p0 / (281474976710657 : Int64) * (281474976710657 : Int64)) + (p1 - p1 / (1024 : Int64) * (1024 : Int64)))), .second, .val (.double (FP.l2d (281474976710656 : Int64))), .second, .val (.double (FP.ddiv (FP.l2d (p0 - p0 / (281474976710657 : Int64) * (281474976710657 : Int64))) (FP.l2d (281474976710656 : Int64)))), .second, .val (.double (FP.ddiv (FP.l2d ((p0 - p0 / (281474976710657 : Int64) * (281474976710657 : Int64)) + (p1 - p1 / (1024 : Int64) * (1024 : Int64)))) (FP.l2d (281474976710656 : Int64)))), .second, .unset] [(.int (0 : Int32))])) _
        refine XS.istore X0.here hx rfl (hb hby at_76) rfl (l' := #[.val (.long p0), .second, .val (.long p1), .second, .val (.int p2), .val (.long (281474976710656 : Int64)), .second, .val (.long (p0 - p0 / (281474976710657 : Int64) * (281474976710657 : Int64))), .second, .val (.long (p1 - p1 / (1024 : Int64) * (1024 : Int64))), .second, .val (.long ((p0 - p0 / (281474976710657 : Int64) * (281474976710657 : Int64)) + (p1 - p1 / (1024 : Int64) * (1024 : Int64)))), .second, .val (.double (FP.l2d (281474976710656 : Int64))), .second, .val (.double (FP.ddiv (FP.l2d (p0 - p0 / (281474976710657 : Int64) * (281474976710657 : Int64))) (FP.l2d (281474976710656 : Int64)))), .second, .val (.double (FP.ddiv (FP.l2d ((p0 - p0 / (281474976710657 : Int64) * (281474976710657 : Int64)) + (p1 - p1 / (1024 : Int64) * (1024 : Int64)))) (FP.l2d (281474976710656 : Int64)))), .second, .val (.int (0 : Int32))]) rfl ?_
        show Steps p.tables e below (s₁.setTop (mkF m 78 #[.val (.long p0), .second, .val (.long p1), .second, .val (.int p2), .val (.long (281474976710656 : Int64)), .second, .val (.long (p0 - p0 / (281474976710657 : Int64) * (281474976710657 : Int64))), .second, .val (.long (p1 - p1 / (1024 : Int64) * (1024 : Int64))), .second, .val (.long ((p0 - p0 / (281474976710657 : Int64) * (281474976710657 : Int64)) + (p1 - p1 / (1024 : Int64) * (1024 : Int64)))), .second, .val (.double (FP.l2d (281474976710656 : Int64))), .second, .val (.double (FP.ddiv (FP.l2d (p0 - p0 / (281474976710657 : Int64) * (281474976710657 : Int64))) (FP.l2d (281474976710656 : Int64)))), .second, .val (.double (FP.ddiv (FP.l2d ((p0 - p0 / (281474976710657 : Int64) * (281474976710657 : Int64)) + (p1 - p1 / (1024 : Int64) * (1024 : Int64)))) (FP.l2d (281474976710656 : Int64)))), .second, .val (.int (0 : Int32))] [])) _
        refine XS.dload X0.here hx rfl (hb hby at_78) rfl ?_
        show Steps p.tables e below (s₁.setTop (mkF m 80 #[.val (.long p0), .second, .val (.long p1), .second, .val (.int p2), .val (.long (281474976710656 : Int64)), .second, .val (.long (p0 - p0 / (281474976710657 : Int64) * (281474976710657 : Int64))), .second, .val (.long (p1 - p1 / (1024 : Int64) * (1024 : Int64))), .second, .val (.long ((p0 - p0 / (281474976710657 : Int64) * (281474976710657 : Int64)) + (p1 - p1 / (1024 : Int64) * (1024 : Int64)))), .second, .val (.double (FP.l2d (281474976710656 : Int64))), .second, .val (.double (FP.ddiv (FP.l2d (p0 - p0 / (281474976710657 : Int64) * (281474976710657 : Int64))) (FP.l2d (281474976710656 : Int64)))), .second, .val (.double (FP.ddiv (FP.l2d ((p0 - p0 / (281474976710657 : Int64) * (281474976710657 : Int64)) + (p1 - p1 / (1024 : Int64) * (1024 : Int64)))) (FP.l2d (281474976710656 : Int64)))), .second, .val (.int (0 : Int32))] [(.double (FP.ddiv (FP.l2d ((p0 - p0 / (281474976710657 : Int64) * (281474976710657 : Int64)) + (p1 - p1 / (1024 : Int64) * (1024 : Int64)))) (FP.l2d (281474976710656 : Int64))))])) _
        refine XS.dload X0.here hx rfl (hb hby at_80) rfl ?_
        exact kt)
      rcases hv11 with ⟨hv11, hd11_0⟩ | ⟨hv11, hd11_0⟩
      · subst hv11
        exfalso
        have q := (own_higher (own_rem rfl (by decide) (by decide)) (own_rem rfl (by decide) (by decide))).mp hd11_0
        have r := (lw_lt _ _).mp hc10
        rw [Int64.lt_iff_toInt_lt] at r
        have e2 : (282 : Int64).toInt = 282 := rfl
        omega
      · subst hv11
        obtain ⟨fs, hr, hrun, hended, hW, hsame⟩ := X11.leave (v := (some (.int (1 : Int32)))) (fun h => by rw [Bd.returns] at h; cases h)
        refine ⟨_, _, pre12 _ ?_, hrun, hended, _, _, rfl, ?_, ⟨_, rfl⟩, hW, hsame.mono (by decide) (by decide)⟩
        · show Steps p.tables e below (s₁.setTop (mkF m 82 #[.val (.long p0), .second, .val (.long p1), .second, .val (.int p2), .val (.long (281474976710656 : Int64)), .second, .val (.long (p0 - p0 / (281474976710657 : Int64) * (281474976710657 : Int64))), .second, .val (.long (p1 - p1 / (1024 : Int64) * (1024 : Int64))), .second, .val (.long ((p0 - p0 / (281474976710657 : Int64) * (281474976710657 : Int64)) + (p1 - p1 / (1024 : Int64) * (1024 : Int64)))), .second, .val (.double (FP.l2d (281474976710656 : Int64))), .second, .val (.double (FP.ddiv (FP.l2d (p0 - p0 / (281474976710657 : Int64) * (281474976710657 : Int64))) (FP.l2d (281474976710656 : Int64)))), .second, .val (.double (FP.ddiv (FP.l2d ((p0 - p0 / (281474976710657 : Int64) * (281474976710657 : Int64)) + (p1 - p1 / (1024 : Int64) * (1024 : Int64)))) (FP.l2d (281474976710656 : Int64)))), .second, .val (.int (0 : Int32))] [(.double (FP.ddiv (FP.l2d (p0 - p0 / (281474976710657 : Int64) * (281474976710657 : Int64))) (FP.l2d (281474976710656 : Int64)))), (.double (FP.ddiv (FP.l2d ((p0 - p0 / (281474976710657 : Int64) * (281474976710657 : Int64)) + (p1 - p1 / (1024 : Int64) * (1024 : Int64)))) (FP.l2d (281474976710656 : Int64))))])) _
          refine st11 _ ?_
          show Steps p.tables e below (T11.setTop (mkF m 85 #[.val (.long p0), .second, .val (.long p1), .second, .val (.int p2), .val (.long (281474976710656 : Int64)), .second, .val (.long (p0 - p0 / (281474976710657 : Int64) * (281474976710657 : Int64))), .second, .val (.long (p1 - p1 / (1024 : Int64) * (1024 : Int64))), .second, .val (.long ((p0 - p0 / (281474976710657 : Int64) * (281474976710657 : Int64)) + (p1 - p1 / (1024 : Int64) * (1024 : Int64)))), .second, .val (.double (FP.l2d (281474976710656 : Int64))), .second, .val (.double (FP.ddiv (FP.l2d (p0 - p0 / (281474976710657 : Int64) * (281474976710657 : Int64))) (FP.l2d (281474976710656 : Int64)))), .second, .val (.double (FP.ddiv (FP.l2d ((p0 - p0 / (281474976710657 : Int64) * (281474976710657 : Int64)) + (p1 - p1 / (1024 : Int64) * (1024 : Int64)))) (FP.l2d (281474976710656 : Int64)))), .second, .val (.int (0 : Int32))] [(.int (0 : Int32))])) _
          refine XS.iload X11.here hx rfl (hb hby at_85) rfl ?_
          show Steps p.tables e below (T11.setTop (mkF m 87 #[.val (.long p0), .second, .val (.long p1), .second, .val (.int p2), .val (.long (281474976710656 : Int64)), .second, .val (.long (p0 - p0 / (281474976710657 : Int64) * (281474976710657 : Int64))), .second, .val (.long (p1 - p1 / (1024 : Int64) * (1024 : Int64))), .second, .val (.long ((p0 - p0 / (281474976710657 : Int64) * (281474976710657 : Int64)) + (p1 - p1 / (1024 : Int64) * (1024 : Int64)))), .second, .val (.double (FP.l2d (281474976710656 : Int64))), .second, .val (.double (FP.ddiv (FP.l2d (p0 - p0 / (281474976710657 : Int64) * (281474976710657 : Int64))) (FP.l2d (281474976710656 : Int64)))), .second, .val (.double (FP.ddiv (FP.l2d ((p0 - p0 / (281474976710657 : Int64) * (281474976710657 : Int64)) + (p1 - p1 / (1024 : Int64) * (1024 : Int64)))) (FP.l2d (281474976710656 : Int64)))), .second, .val (.int (0 : Int32))] [(.int (0 : Int32)), (.int (0 : Int32))])) _
          refine XS.icmpNo X11.here hx rfl (hb hby at_87) rfl (by decide) ?_
          show Steps p.tables e below (T11.setTop (mkF m 90 #[.val (.long p0), .second, .val (.long p1), .second, .val (.int p2), .val (.long (281474976710656 : Int64)), .second, .val (.long (p0 - p0 / (281474976710657 : Int64) * (281474976710657 : Int64))), .second, .val (.long (p1 - p1 / (1024 : Int64) * (1024 : Int64))), .second, .val (.long ((p0 - p0 / (281474976710657 : Int64) * (281474976710657 : Int64)) + (p1 - p1 / (1024 : Int64) * (1024 : Int64)))), .second, .val (.double (FP.l2d (281474976710656 : Int64))), .second, .val (.double (FP.ddiv (FP.l2d (p0 - p0 / (281474976710657 : Int64) * (281474976710657 : Int64))) (FP.l2d (281474976710656 : Int64)))), .second, .val (.double (FP.ddiv (FP.l2d ((p0 - p0 / (281474976710657 : Int64) * (281474976710657 : Int64)) + (p1 - p1 / (1024 : Int64) * (1024 : Int64)))) (FP.l2d (281474976710656 : Int64)))), .second, .val (.int (0 : Int32))] [])) _
          refine XS.iconst X11.here hx rfl (hb hby at_90) ?_
          show Steps p.tables e below (T11.setTop (mkF m 91 #[.val (.long p0), .second, .val (.long p1), .second, .val (.int p2), .val (.long (281474976710656 : Int64)), .second, .val (.long (p0 - p0 / (281474976710657 : Int64) * (281474976710657 : Int64))), .second, .val (.long (p1 - p1 / (1024 : Int64) * (1024 : Int64))), .second, .val (.long ((p0 - p0 / (281474976710657 : Int64) * (281474976710657 : Int64)) + (p1 - p1 / (1024 : Int64) * (1024 : Int64)))), .second, .val (.double (FP.l2d (281474976710656 : Int64))), .second, .val (.double (FP.ddiv (FP.l2d (p0 - p0 / (281474976710657 : Int64) * (281474976710657 : Int64))) (FP.l2d (281474976710656 : Int64)))), .second, .val (.double (FP.ddiv (FP.l2d ((p0 - p0 / (281474976710657 : Int64) * (281474976710657 : Int64)) + (p1 - p1 / (1024 : Int64) * (1024 : Int64)))) (FP.l2d (281474976710656 : Int64)))), .second, .val (.int (0 : Int32))] [(.int (1 : Int32))])) _
          refine XS.goto X11.here hx rfl (pc0 := 91) (pc' := 95) rfl (hb hby at_91) (by decide) (by decide) ?_
          show Steps p.tables e below (T11.setTop (mkF m 95 #[.val (.long p0), .second, .val (.long p1), .second, .val (.int p2), .val (.long (281474976710656 : Int64)), .second, .val (.long (p0 - p0 / (281474976710657 : Int64) * (281474976710657 : Int64))), .second, .val (.long (p1 - p1 / (1024 : Int64) * (1024 : Int64))), .second, .val (.long ((p0 - p0 / (281474976710657 : Int64) * (281474976710657 : Int64)) + (p1 - p1 / (1024 : Int64) * (1024 : Int64)))), .second, .val (.double (FP.l2d (281474976710656 : Int64))), .second, .val (.double (FP.ddiv (FP.l2d (p0 - p0 / (281474976710657 : Int64) * (281474976710657 : Int64))) (FP.l2d (281474976710656 : Int64)))), .second, .val (.double (FP.ddiv (FP.l2d ((p0 - p0 / (281474976710657 : Int64) * (281474976710657 : Int64)) + (p1 - p1 / (1024 : Int64) * (1024 : Int64)))) (FP.l2d (281474976710656 : Int64)))), .second, .val (.int (0 : Int32))] [(.int (1 : Int32))])) _
          exact retN X11 hx (t := .boolean) Bd.returns (by simp) (hb hby at_95) hr
        · show Q0 Z p0 p1 p2 h0 n0 _ T11.heap _
          rw [eh11]
          exact ⟨N11, rfl⟩
    · skip
      obtain ⟨_, _, ⟨T13, L13, k13, n13⟩, -, X13, ⟨Lc13, hQ13, l13, y13, z13⟩, st13⟩ := Jvm.LawKit.callS X0 hx (y := (⟨"com/example/topics_into_queries/topicsintoqueries/SphericalKMeans", "higher", "(DD)Z"⟩ : MethodName)) hown (mvT hZ (own_k hw 2 rfl)) (mvT hZ (own_k hw 3 rfl)) (mvT hZ (own_k hw 4 rfl)) (mvT hZ (own_k hw 5 rfl)) (by decide) (backOf (W := 0) (rmHi l Z a0 hw [] (FP.ddiv (FP.l2d ((p0 - p0 / (281474976710657 : Int64) * (281474976710657 : Int64)) + (p1 - p1 / (1024 : Int64) * (1024 : Int64)))) (FP.l2d (281474976710656 : Int64))) (FP.ddiv (FP.l2d (p0 - p0 / (281474976710657 : Int64) * (281474976710657 : Int64))) (FP.l2d (281474976710656 : Int64))) h0 n0 Z0 (own_nns _)) hZ (own_k hw 5 rfl) (own_k hw 4 rfl) (by decide) (by decide)) (g := (mkF m 82 #[.val (.long p0), .second, .val (.long p1), .second, .val (.int p2), .val (.long (281474976710656 : Int64)), .second, .val (.long (p0 - p0 / (281474976710657 : Int64) * (281474976710657 : Int64))), .second, .val (.long (p1 - p1 / (1024 : Int64) * (1024 : Int64))), .second, .val (.long ((p0 - p0 / (281474976710657 : Int64) * (281474976710657 : Int64)) + (p1 - p1 / (1024 : Int64) * (1024 : Int64)))), .second, .val (.double (FP.l2d (281474976710656 : Int64))), .second, .val (.double (FP.ddiv (FP.l2d (p0 - p0 / (281474976710657 : Int64) * (281474976710657 : Int64))) (FP.l2d (281474976710656 : Int64)))), .second, .val (.double (FP.ddiv (FP.l2d ((p0 - p0 / (281474976710657 : Int64) * (281474976710657 : Int64)) + (p1 - p1 / (1024 : Int64) * (1024 : Int64)))) (FP.l2d (281474976710656 : Int64)))), .second, .val (.int (1 : Int32))] [(.double (FP.ddiv (FP.l2d (p0 - p0 / (281474976710657 : Int64) * (281474976710657 : Int64))) (FP.l2d (281474976710656 : Int64)))), (.double (FP.ddiv (FP.l2d ((p0 - p0 / (281474976710657 : Int64) * (281474976710657 : Int64)) + (p1 - p1 / (1024 : Int64) * (1024 : Int64)))) (FP.l2d (281474976710656 : Int64))))])) rfl (by rw [hml]; rfl) (argsL := [(.double (FP.ddiv (FP.l2d ((p0 - p0 / (281474976710657 : Int64) * (281474976710657 : Int64)) + (p1 - p1 / (1024 : Int64) * (1024 : Int64)))) (FP.l2d (281474976710656 : Int64)))), (.double (FP.ddiv (FP.l2d (p0 - p0 / (281474976710657 : Int64) * (281474976710657 : Int64))) (FP.l2d (281474976710656 : Int64))))]) (rest := []) (lenOf own_pd_0 rfl) rfl (by show 2 * 0 + _ ≤ _; exact Nat.le_of_eq rfl) (hb hby at_82) (fun _ _ => ⟨rfl, e0, (by decide : 0 + 0 ≤ _), (by decide : 0 + 0 ≤ _)⟩)
      dsimp only [Pt.U, Pt.locs, Pt.cells, Pt.slots] at X13 l13 y13 z13 st13 hQ13
      subst l13 y13 z13
      obtain ⟨Nq13, eh13, hv13⟩ := hQ13
      have N13 := Fr.app N0 Nq13
      have pre14 : ∀ t, Steps p.tables e below (s₁.setTop (mkF m 82 #[.val (.long p0), .second, .val (.long p1), .second, .val (.int p2), .val (.long (281474976710656 : Int64)), .second, .val (.long (p0 - p0 / (281474976710657 : Int64) * (281474976710657 : Int64))), .second, .val (.long (p1 - p1 / (1024 : Int64) * (1024 : Int64))), .second, .val (.long ((p0 - p0 / (281474976710657 : Int64) * (281474976710657 : Int64)) + (p1 - p1 / (1024 : Int64) * (1024 : Int64)))), .second, .val (.double (FP.l2d (281474976710656 : Int64))), .second, .val (.double (FP.ddiv (FP.l2d (p0 - p0 / (281474976710657 : Int64) * (281474976710657 : Int64))) (FP.l2d (281474976710656 : Int64)))), .second, .val (.double (FP.ddiv (FP.l2d ((p0 - p0 / (281474976710657 : Int64) * (281474976710657 : Int64)) + (p1 - p1 / (1024 : Int64) * (1024 : Int64)))) (FP.l2d (281474976710656 : Int64)))), .second, .val (.int (1 : Int32))] [(.double (FP.ddiv (FP.l2d (p0 - p0 / (281474976710657 : Int64) * (281474976710657 : Int64))) (FP.l2d (281474976710656 : Int64)))), (.double (FP.ddiv (FP.l2d ((p0 - p0 / (281474976710657 : Int64) * (281474976710657 : Int64)) + (p1 - p1 / (1024 : Int64) * (1024 : Int64)))) (FP.l2d (281474976710656 : Int64))))])) t → Steps p.tables e below (s₁.setTop (entryFrame m #[(.long p0), (.long p1), (.int p2)] maxLocals)) t := fun t kt => pre9 t (by
        show Steps p.tables e below (s₁.setTop (mkF m 68 #[.val (.long p0), .second, .val (.long p1), .second, .val (.int p2), .val (.long (281474976710656 : Int64)), .second, .val (.long (p0 - p0 / (281474976710657 : Int64) * (281474976710657 : Int64))), .second, .val (.long (p1 - p1 / (1024 : Int64) * (1024 : Int64))), .second, .val (.long ((p0 - p0 / (281474976710657 : Int64) * (281474976710657 : Int64)) + (p1 - p1 / (1024 : Int64) * (1024 : Int64)))), .second, .val (.double (FP.l2d (281474976710656 : Int64))), .second, .val (.double (FP.ddiv (FP.l2d (p0 - p0 / (281474976710657 : Int64) * (281474976710657 : Int64))) (FP.l2d (281474976710656 : Int64)))), .second, .val (.double (FP.ddiv (FP.l2d ((p0 - p0 / (281474976710657 : Int64) * (281474976710657 : Int64)) + (p1 - p1 / (1024 : Int64) * (1024 : Int64)))) (FP.l2d (281474976710656 : Int64)))), .second, .unset] [(.int (lcmpW (p1 - p1 / (1024 : Int64) * (1024 : Int64)) (282 : Int64)))])) _
        refine XS.ifNo X0.here hx rfl (hb hby at_68) rfl ((if0 _ _).trans (flt hc10).1) ?_
        show Steps p.tables e below (s₁.setTop (mkF m 71 #[.val (.long p0), .second, .val (.long p1), .second, .val (.int p2), .val (.long (281474976710656 : Int64)), .second, .val (.long (p0 - p0 / (281474976710657 : Int64) * (281474976710657 : Int64))), .second, .val (.long (p1 - p1 / (1024 : Int64) * (1024 : Int64))), .second, .val (.long ((p0 - p0 / (281474976710657 : Int64) * (281474976710657 : Int64)) + (p1 - p1 / (1024 : Int64) * (1024 : Int64)))), .second, .val (.double (FP.l2d (281474976710656 : Int64))), .second, .val (.double (FP.ddiv (FP.l2d (p0 - p0 / (281474976710657 : Int64) * (281474976710657 : Int64))) (FP.l2d (281474976710656 : Int64)))), .second, .val (.double (FP.ddiv (FP.l2d ((p0 - p0 / (281474976710657 : Int64) * (281474976710657 : Int64)) + (p1 - p1 / (1024 : Int64) * (1024 : Int64)))) (FP.l2d (281474976710656 : Int64)))), .second, .unset] [])) _
        refine XS.iconst X0.here hx rfl (hb hby at_71) ?_
        show Steps p.tables e below (s₁.setTop (mkF m 72 #[.val (.long p0), .second, .val (.long p1), .second, .val (.int p2), .val (.long (281474976710656 : Int64)), .second, .val (.long (p0 - p0 / (281474976710657 : Int64) * (281474976710657 : Int64))), .second, .val (.long (p1 - p1 / (1024 : Int64) * (1024 : Int64))), .second, .val (.long ((p0 - p0 / (281474976710657 : Int64) * (281474976710657 : Int64)) + (p1 - p1 / (1024 : Int64) * (1024 : Int64)))), .second, .val (.double (FP.l2d (281474976710656 : Int64))), .second, .val (.double (FP.ddiv (FP.l2d (p0 - p0 / (281474976710657 : Int64) * (281474976710657 : Int64))) (FP.l2d (281474976710656 : Int64)))), .second, .val (.double (FP.ddiv (FP.l2d ((p0 - p0 / (281474976710657 : Int64) * (281474976710657 : Int64)) + (p1 - p1 / (1024 : Int64) * (1024 : Int64)))) (FP.l2d (281474976710656 : Int64)))), .second, .unset] [(.int (1 : Int32))])) _
        refine XS.goto X0.here hx rfl (pc0 := 72) (pc' := 76) rfl (hb hby at_72) (by decide) (by decide) ?_
        show Steps p.tables e below (s₁.setTop (mkF m 76 #[.val (.long p0), .second, .val (.long p1), .second, .val (.int p2), .val (.long (281474976710656 : Int64)), .second, .val (.long (p0 - p0 / (281474976710657 : Int64) * (281474976710657 : Int64))), .second, .val (.long (p1 - p1 / (1024 : Int64) * (1024 : Int64))), .second, .val (.long ((p0 - p0 / (281474976710657 : Int64) * (281474976710657 : Int64)) + (p1 - p1 / (1024 : Int64) * (1024 : Int64)))), .second, .val (.double (FP.l2d (281474976710656 : Int64))), .second, .val (.double (FP.ddiv (FP.l2d (p0 - p0 / (281474976710657 : Int64) * (281474976710657 : Int64))) (FP.l2d (281474976710656 : Int64)))), .second, .val (.double (FP.ddiv (FP.l2d ((p0 - p0 / (281474976710657 : Int64) * (281474976710657 : Int64)) + (p1 - p1 / (1024 : Int64) * (1024 : Int64)))) (FP.l2d (281474976710656 : Int64)))), .second, .unset] [(.int (1 : Int32))])) _
        refine XS.istore X0.here hx rfl (hb hby at_76) rfl (l' := #[.val (.long p0), .second, .val (.long p1), .second, .val (.int p2), .val (.long (281474976710656 : Int64)), .second, .val (.long (p0 - p0 / (281474976710657 : Int64) * (281474976710657 : Int64))), .second, .val (.long (p1 - p1 / (1024 : Int64) * (1024 : Int64))), .second, .val (.long ((p0 - p0 / (281474976710657 : Int64) * (281474976710657 : Int64)) + (p1 - p1 / (1024 : Int64) * (1024 : Int64)))), .second, .val (.double (FP.l2d (281474976710656 : Int64))), .second, .val (.double (FP.ddiv (FP.l2d (p0 - p0 / (281474976710657 : Int64) * (281474976710657 : Int64))) (FP.l2d (281474976710656 : Int64)))), .second, .val (.double (FP.ddiv (FP.l2d ((p0 - p0 / (281474976710657 : Int64) * (281474976710657 : Int64)) + (p1 - p1 / (1024 : Int64) * (1024 : Int64)))) (FP.l2d (281474976710656 : Int64)))), .second, .val (.int (1 : Int32))]) rfl ?_
        show Steps p.tables e below (s₁.setTop (mkF m 78 #[.val (.long p0), .second, .val (.long p1), .second, .val (.int p2), .val (.long (281474976710656 : Int64)), .second, .val (.long (p0 - p0 / (281474976710657 : Int64) * (281474976710657 : Int64))), .second, .val (.long (p1 - p1 / (1024 : Int64) * (1024 : Int64))), .second, .val (.long ((p0 - p0 / (281474976710657 : Int64) * (281474976710657 : Int64)) + (p1 - p1 / (1024 : Int64) * (1024 : Int64)))), .second, .val (.double (FP.l2d (281474976710656 : Int64))), .second, .val (.double (FP.ddiv (FP.l2d (p0 - p0 / (281474976710657 : Int64) * (281474976710657 : Int64))) (FP.l2d (281474976710656 : Int64)))), .second, .val (.double (FP.ddiv (FP.l2d ((p0 - p0 / (281474976710657 : Int64) * (281474976710657 : Int64)) + (p1 - p1 / (1024 : Int64) * (1024 : Int64)))) (FP.l2d (281474976710656 : Int64)))), .second, .val (.int (1 : Int32))] [])) _
        refine XS.dload X0.here hx rfl (hb hby at_78) rfl ?_
        show Steps p.tables e below (s₁.setTop (mkF m 80 #[.val (.long p0), .second, .val (.long p1), .second, .val (.int p2), .val (.long (281474976710656 : Int64)), .second, .val (.long (p0 - p0 / (281474976710657 : Int64) * (281474976710657 : Int64))), .second, .val (.long (p1 - p1 / (1024 : Int64) * (1024 : Int64))), .second, .val (.long ((p0 - p0 / (281474976710657 : Int64) * (281474976710657 : Int64)) + (p1 - p1 / (1024 : Int64) * (1024 : Int64)))), .second, .val (.double (FP.l2d (281474976710656 : Int64))), .second, .val (.double (FP.ddiv (FP.l2d (p0 - p0 / (281474976710657 : Int64) * (281474976710657 : Int64))) (FP.l2d (281474976710656 : Int64)))), .second, .val (.double (FP.ddiv (FP.l2d ((p0 - p0 / (281474976710657 : Int64) * (281474976710657 : Int64)) + (p1 - p1 / (1024 : Int64) * (1024 : Int64)))) (FP.l2d (281474976710656 : Int64)))), .second, .val (.int (1 : Int32))] [(.double (FP.ddiv (FP.l2d ((p0 - p0 / (281474976710657 : Int64) * (281474976710657 : Int64)) + (p1 - p1 / (1024 : Int64) * (1024 : Int64)))) (FP.l2d (281474976710656 : Int64))))])) _
        refine XS.dload X0.here hx rfl (hb hby at_80) rfl ?_
        exact kt)
      rcases hv13 with ⟨hv13, hd13_0⟩ | ⟨hv13, hd13_0⟩
      · subst hv13
        obtain ⟨fs, hr, hrun, hended, hW, hsame⟩ := X13.leave (v := (some (.int (1 : Int32)))) (fun h => by rw [Bd.returns] at h; cases h)
        refine ⟨_, _, pre14 _ ?_, hrun, hended, _, _, rfl, ?_, ⟨_, rfl⟩, hW, hsame.mono (by decide) (by decide)⟩
        · show Steps p.tables e below (s₁.setTop (mkF m 82 #[.val (.long p0), .second, .val (.long p1), .second, .val (.int p2), .val (.long (281474976710656 : Int64)), .second, .val (.long (p0 - p0 / (281474976710657 : Int64) * (281474976710657 : Int64))), .second, .val (.long (p1 - p1 / (1024 : Int64) * (1024 : Int64))), .second, .val (.long ((p0 - p0 / (281474976710657 : Int64) * (281474976710657 : Int64)) + (p1 - p1 / (1024 : Int64) * (1024 : Int64)))), .second, .val (.double (FP.l2d (281474976710656 : Int64))), .second, .val (.double (FP.ddiv (FP.l2d (p0 - p0 / (281474976710657 : Int64) * (281474976710657 : Int64))) (FP.l2d (281474976710656 : Int64)))), .second, .val (.double (FP.ddiv (FP.l2d ((p0 - p0 / (281474976710657 : Int64) * (281474976710657 : Int64)) + (p1 - p1 / (1024 : Int64) * (1024 : Int64)))) (FP.l2d (281474976710656 : Int64)))), .second, .val (.int (1 : Int32))] [(.double (FP.ddiv (FP.l2d (p0 - p0 / (281474976710657 : Int64) * (281474976710657 : Int64))) (FP.l2d (281474976710656 : Int64)))), (.double (FP.ddiv (FP.l2d ((p0 - p0 / (281474976710657 : Int64) * (281474976710657 : Int64)) + (p1 - p1 / (1024 : Int64) * (1024 : Int64)))) (FP.l2d (281474976710656 : Int64))))])) _
          refine st13 _ ?_
          show Steps p.tables e below (T13.setTop (mkF m 85 #[.val (.long p0), .second, .val (.long p1), .second, .val (.int p2), .val (.long (281474976710656 : Int64)), .second, .val (.long (p0 - p0 / (281474976710657 : Int64) * (281474976710657 : Int64))), .second, .val (.long (p1 - p1 / (1024 : Int64) * (1024 : Int64))), .second, .val (.long ((p0 - p0 / (281474976710657 : Int64) * (281474976710657 : Int64)) + (p1 - p1 / (1024 : Int64) * (1024 : Int64)))), .second, .val (.double (FP.l2d (281474976710656 : Int64))), .second, .val (.double (FP.ddiv (FP.l2d (p0 - p0 / (281474976710657 : Int64) * (281474976710657 : Int64))) (FP.l2d (281474976710656 : Int64)))), .second, .val (.double (FP.ddiv (FP.l2d ((p0 - p0 / (281474976710657 : Int64) * (281474976710657 : Int64)) + (p1 - p1 / (1024 : Int64) * (1024 : Int64)))) (FP.l2d (281474976710656 : Int64)))), .second, .val (.int (1 : Int32))] [(.int (1 : Int32))])) _
          refine XS.iload X13.here hx rfl (hb hby at_85) rfl ?_
          show Steps p.tables e below (T13.setTop (mkF m 87 #[.val (.long p0), .second, .val (.long p1), .second, .val (.int p2), .val (.long (281474976710656 : Int64)), .second, .val (.long (p0 - p0 / (281474976710657 : Int64) * (281474976710657 : Int64))), .second, .val (.long (p1 - p1 / (1024 : Int64) * (1024 : Int64))), .second, .val (.long ((p0 - p0 / (281474976710657 : Int64) * (281474976710657 : Int64)) + (p1 - p1 / (1024 : Int64) * (1024 : Int64)))), .second, .val (.double (FP.l2d (281474976710656 : Int64))), .second, .val (.double (FP.ddiv (FP.l2d (p0 - p0 / (281474976710657 : Int64) * (281474976710657 : Int64))) (FP.l2d (281474976710656 : Int64)))), .second, .val (.double (FP.ddiv (FP.l2d ((p0 - p0 / (281474976710657 : Int64) * (281474976710657 : Int64)) + (p1 - p1 / (1024 : Int64) * (1024 : Int64)))) (FP.l2d (281474976710656 : Int64)))), .second, .val (.int (1 : Int32))] [(.int (1 : Int32)), (.int (1 : Int32))])) _
          refine XS.icmpNo X13.here hx rfl (hb hby at_87) rfl (by decide) ?_
          show Steps p.tables e below (T13.setTop (mkF m 90 #[.val (.long p0), .second, .val (.long p1), .second, .val (.int p2), .val (.long (281474976710656 : Int64)), .second, .val (.long (p0 - p0 / (281474976710657 : Int64) * (281474976710657 : Int64))), .second, .val (.long (p1 - p1 / (1024 : Int64) * (1024 : Int64))), .second, .val (.long ((p0 - p0 / (281474976710657 : Int64) * (281474976710657 : Int64)) + (p1 - p1 / (1024 : Int64) * (1024 : Int64)))), .second, .val (.double (FP.l2d (281474976710656 : Int64))), .second, .val (.double (FP.ddiv (FP.l2d (p0 - p0 / (281474976710657 : Int64) * (281474976710657 : Int64))) (FP.l2d (281474976710656 : Int64)))), .second, .val (.double (FP.ddiv (FP.l2d ((p0 - p0 / (281474976710657 : Int64) * (281474976710657 : Int64)) + (p1 - p1 / (1024 : Int64) * (1024 : Int64)))) (FP.l2d (281474976710656 : Int64)))), .second, .val (.int (1 : Int32))] [])) _
          refine XS.iconst X13.here hx rfl (hb hby at_90) ?_
          show Steps p.tables e below (T13.setTop (mkF m 91 #[.val (.long p0), .second, .val (.long p1), .second, .val (.int p2), .val (.long (281474976710656 : Int64)), .second, .val (.long (p0 - p0 / (281474976710657 : Int64) * (281474976710657 : Int64))), .second, .val (.long (p1 - p1 / (1024 : Int64) * (1024 : Int64))), .second, .val (.long ((p0 - p0 / (281474976710657 : Int64) * (281474976710657 : Int64)) + (p1 - p1 / (1024 : Int64) * (1024 : Int64)))), .second, .val (.double (FP.l2d (281474976710656 : Int64))), .second, .val (.double (FP.ddiv (FP.l2d (p0 - p0 / (281474976710657 : Int64) * (281474976710657 : Int64))) (FP.l2d (281474976710656 : Int64)))), .second, .val (.double (FP.ddiv (FP.l2d ((p0 - p0 / (281474976710657 : Int64) * (281474976710657 : Int64)) + (p1 - p1 / (1024 : Int64) * (1024 : Int64)))) (FP.l2d (281474976710656 : Int64)))), .second, .val (.int (1 : Int32))] [(.int (1 : Int32))])) _
          refine XS.goto X13.here hx rfl (pc0 := 91) (pc' := 95) rfl (hb hby at_91) (by decide) (by decide) ?_
          show Steps p.tables e below (T13.setTop (mkF m 95 #[.val (.long p0), .second, .val (.long p1), .second, .val (.int p2), .val (.long (281474976710656 : Int64)), .second, .val (.long (p0 - p0 / (281474976710657 : Int64) * (281474976710657 : Int64))), .second, .val (.long (p1 - p1 / (1024 : Int64) * (1024 : Int64))), .second, .val (.long ((p0 - p0 / (281474976710657 : Int64) * (281474976710657 : Int64)) + (p1 - p1 / (1024 : Int64) * (1024 : Int64)))), .second, .val (.double (FP.l2d (281474976710656 : Int64))), .second, .val (.double (FP.ddiv (FP.l2d (p0 - p0 / (281474976710657 : Int64) * (281474976710657 : Int64))) (FP.l2d (281474976710656 : Int64)))), .second, .val (.double (FP.ddiv (FP.l2d ((p0 - p0 / (281474976710657 : Int64) * (281474976710657 : Int64)) + (p1 - p1 / (1024 : Int64) * (1024 : Int64)))) (FP.l2d (281474976710656 : Int64)))), .second, .val (.int (1 : Int32))] [(.int (1 : Int32))])) _
          exact retN X13 hx (t := .boolean) Bd.returns (by simp) (hb hby at_95) hr
        · show Q0 Z p0 p1 p2 h0 n0 _ T13.heap _
          rw [eh13]
          exact ⟨N13, rfl⟩
      · subst hv13
        exfalso
        have q := mt (own_higher (own_rem rfl (by decide) (by decide)) (own_rem rfl (by decide) (by decide))).mpr hd13_0
        have r := mt (lw_lt _ _).mpr hc10
        rw [Int64.lt_iff_toInt_lt] at r
        have e2 : (282 : Int64).toInt = 282 := rfl
        omega
set_option maxRecDepth 65536 in
set_option maxHeartbeats 40000000 in
theorem comes_1 {Post : Tables → Env → Array Value → State → Outcome → State → Prop} (hpost : ∀ tb e args s v u, (limb_1_1.after args s (.returned v) u = true ∧ limb_1_2.after args s (.returned v) u = true ∧ True) → FrameEnd s (.returned v) u (Jvm.fieldLocs frame_1_writes args s ++ Jvm.arrayLocs frame_1_arrays args s ++ Jvm.staticLocs frame_1_statics s) 0 0 → Post tb e args s (.returned v) u) :
    ArmFor flags0 classFile x code maxLocals ret World_1 tables_1 room_1 Calls_1 rest_1 Pre_1 Post := by
  intro l hfl _ _ p e ha hc hk s m args below hf hA hF happ hP
  obtain ⟨hcalls, hrest, hpre⟩ := hP
  obtain ⟨-, -, -, hnamed, -, -, -, hat⟩ := (Spec.applies_iff hf).mp happ
  obtain ⟨hg, hn⟩ := and_e (Cond.before_iff.mp (show (Jvm.Cond.and given_1 narrow_1).before args s = true from hpre))
  obtain ⟨gv1, gv2⟩ := and_e hg
  obtain ⟨gv3, gv4⟩ := and_e gv2
  obtain ⟨gv5, gv6⟩ := and_e gv4
  obtain ⟨w0, w1, w2, rfl⟩ : ∃ w0 w1 w2 : Value, args = #[w0, w1, w2] := by
    have hs : args.size = 3 := by simpa [Cond.value, given_1] using gv1
    obtain ⟨L⟩ := args
    match L, hs with
    | [w0, w1, w2], _ => exact ⟨w0, w1, w2, rfl⟩
  have hw := fun d (hd : d ∈ tables_1) => atoms_spec (ws := Jvm.Cond.code x code maxLocals ret :: tables_1) hat d (List.mem_cons_of_mem _ hd)
  have hfit : Fit s := fun {y c} hc i hi => by
    obtain ⟨ha, rfl⟩ := Array.getElem?_eq_some_iff.mp hc
    have q := List.all_eq_true.mp ((Array.all_eq_true_iff_forall_mem.mp hF) _ (Array.getElem_mem ha)) i (List.mem_range.mpr hi)
    simpa [Array.getElem?_eq_getElem hi] using q
  obtain ⟨i0, ei0⟩ := isL_v gv3
  obtain rfl : w0 = (.long i0) := Option.some.inj ei0
  obtain ⟨i1, ei1⟩ := isL_v gv5
  obtain rfl : w1 = (.long i1) := Option.some.inj ei1
  obtain ⟨i2, ei2⟩ := is_v gv6
  obtain rfl : w2 = (.int i2) := Option.some.inj ei2
  obtain ⟨n, o, h1, h2, h3, _, L, rfl, ⟨N, rfl⟩, hq⟩ := rm0 l s _ hw tables_1 i0 i1 i2 s.heap s.heap.size (Nat.le_refl _) p e ha hc hk s m _ below hf ((Spec.applies_iff_loose hf).mp happ).1 ⟨rfl, State.Warmed39.refl s, rfl⟩ trivial
  refine ⟨n, _, h1, h2, h3, hpost _ _ _ _ _ _ ⟨Cond.after_iff.mpr rfl, Cond.after_iff.mpr (eq_i res_at (Term.int_eval (1)) rfl), trivial⟩ ⟨hq.1, hq.2.1, (hq.2.2.sift fun y hy => Or.inr (N y hy)).mono (by decide) (by decide)⟩⟩
theorem main_1_1 : Claimed_1_1 := comes_1 fun _ _ _ _ _ _ h hF => ⟨h.1, hF⟩
theorem main_1_2 : Claimed_1_2 := comes_1 fun _ _ _ _ _ _ h hF => ⟨h.2.1, hF⟩
end Jvm.Pilot.@@N@@
namespace Jvm.Pilot.@@N@@
open Jvm Jvm.ClassFile Sem Op Lib Jvm.Free Jvm.Stand Jvm.Pilot.@@N@@.Jvm.D
/-! MADE BY PROGRAM (witnessworld.py) out of the Statement's table words and the real class files: 9 classes; the members and pool entries that the words name. The judged class is class 1, her method 1. -/
namespace start1
open Jvm.ClassFile
def u (s : String) : CpInfo := .utf8 (stringToUtf16 s)
/-- a pool by its gaps: so many unusable entries, then the entry; so many at the end -/
def gap : Nat → List CpInfo → List CpInfo
  | 0, r => r
  | n + 1, r => .unusable :: gap n r
def poolList (es : List (Nat × CpInfo)) (last : Nat) : List CpInfo := es.foldr (fun e r => gap e.1 (e.2 :: r)) (gap last [])
def pool (es : List (Nat × CpInfo)) (last : Nat) : Array CpInfo := ⟨poolList es last⟩
def fileOf (pool : Array CpInfo) (this : Nat) (attrs : Array Attribute := #[]) (ms : Array MethodInfo := #[]) (fl : Nat := 33) (sup : Nat := 0) (ifs : Array Nat := #[]) (fds : Array FieldInfo := #[]) : ClassFile where
  minorVersion := 0
  majorVersion := 65
  constantPool := pool
  accessFlags := fl
  thisClass := this
  superClass := sup
  interfaces := ifs
  fields := fds
  methods := ms
  attributes := attrs
def plain (name : String) (sup : Option ClassId) : Class where
  name := name
  kind := .ordinary
  loader := none
  accessFlags := 33
  super := sup
  interfaces := #[]
  cf := none
  fields := #[]
  methods := #[]
  instanceTypes := #[]
  staticTypes := #[]
  resolved := #[]
  callSites := []
  init := .initialized
  statics := none
  mirror := none

def pool0 : Array CpInfo := pool [(5, u "<init>"), (0, u "()V"), (1, .class_ 10), (1, u "java/lang/Object")] 113

def k0m0 : Method := { name := "<init>", desc := "()V", sig := { parameters := [], returnType := none }, accessFlags := 1, code := none }
/-- java/lang/Object -/
def k0 : Class := { plain "java/lang/Object" none with
  accessFlags := 33
  interfaces := #[]
  cf := some (fileOf pool0 8 #[] #[{ accessFlags := 1, nameIndex := 5, descriptorIndex := 6, attributes := #[] }] 33 0 #[] #[])
  fields := #[]
  methods := #[k0m0]
  instanceTypes := #[]
  staticTypes := #[]
  resolved := Array.replicate 124 none
  statics := none }

def pool1 : Array CpInfo := pool [(2, .class_ 4), (1, u "java/lang/Object"), (0, u "<init>"), (0, u "()V"), (0, .long 281474976710656), (1, .long 1024), (1, .long 282), (1, .methodref 14 15), (0, .class_ 16), (0, .nameAndType 17 18), (0, u "com/example/topics_into_queries/topicsintoqueries/SphericalKMeans"), (0, u "higher"), (0, u "(DD)Z"), (0, .class_ 20), (0, u "com/example/topics_into_queries/topicsintoqueries/SphericalKMeansHigherPinLaw"), (2, u "law"), (0, u "(JJI)Z")] 3

def k1m0 : Method := { name := "<init>", desc := "()V", sig := { parameters := [], returnType := none }, accessFlags := 1, code := none }
def k1c1 : Code := { maxStack := 6, maxLocals := 20, code := code, exceptionTable := #[], attributes := #[] }
def k1m1 : Method := { name := "law", desc := "(JJI)Z", sig := { parameters := [.long, .long, .int], returnType := some .boolean }, accessFlags := 9, code := some k1c1 }
/-- com/example/topics_into_queries/topicsintoqueries/SphericalKMeansHigherPinLaw -/
def k1 : Class := { plain "com/example/topics_into_queries/topicsintoqueries/SphericalKMeansHigherPinLaw" (some 0) with
  accessFlags := 49
  interfaces := #[]
  cf := some (fileOf pool1 19 #[] #[{ accessFlags := 1, nameIndex := 5, descriptorIndex := 6, attributes := #[] }, { accessFlags := 9, nameIndex := 23, descriptorIndex := 24, attributes := #[] }] 49 2 #[] #[])
  fields := #[]
  methods := #[k1m0, k1m1]
  instanceTypes := #[]
  staticTypes := #[]
  resolved := Array.replicate 28 none
  statics := none }

def pool2 : Array CpInfo := pool [(2, .class_ 4), (1, u "java/lang/Object"), (0, u "<init>"), (0, u "()V"), (50, .class_ 58), (0, u "com/example/topics_into_queries/topicsintoqueries/SphericalKMeans$SparseVector"), (10, .class_ 70), (0, u "com/example/topics_into_queries/topicsintoqueries/SphericalKMeans"), (43, .class_ 115), (0, u "com/example/topics_into_queries/topicsintoqueries/SphericalKMeans$Partition"), (3, .double 4427486594234968593), (3, u "higher"), (0, u "(DD)Z"), (46, u "MAX_PASSES"), (0, u "I"), (2, u "SETTLED"), (0, u "D"), (0, u "ROUNDING")] 63

def k2m0 : Method := { name := "<init>", desc := "()V", sig := { parameters := [], returnType := none }, accessFlags := 2, code := none }
def k2c1 : Code := { maxStack := 6, maxLocals := 4, code := prog_18_method_3_code, exceptionTable := #[], attributes := #[] }
def k2m1 : Method := { name := "higher", desc := "(DD)Z", sig := { parameters := [.double, .double], returnType := some .boolean }, accessFlags := 8, code := some k2c1 }
/-- com/example/topics_into_queries/topicsintoqueries/SphericalKMeans -/
def k2 : Class := { plain "com/example/topics_into_queries/topicsintoqueries/SphericalKMeans" (some 0) with
  accessFlags := 32
  interfaces := #[]
  cf := some (fileOf pool2 69 #[.nestMembers #[57, 114]] #[{ accessFlags := 2, nameIndex := 5, descriptorIndex := 6, attributes := #[] }, { accessFlags := 8, nameIndex := 123, descriptorIndex := 124, attributes := #[] }] 32 2 #[] #[{ accessFlags := 24, nameIndex := 171, descriptorIndex := 172, attributes := #[] }, { accessFlags := 24, nameIndex := 175, descriptorIndex := 176, attributes := #[] }, { accessFlags := 24, nameIndex := 177, descriptorIndex := 176, attributes := #[] }])
  fields := #[{ name := "MAX_PASSES", type := .int, accessFlags := 24, slot := 0, constantValue := 0 }, { name := "SETTLED", type := .double, accessFlags := 24, slot := 1, constantValue := 0 }, { name := "ROUNDING", type := .double, accessFlags := 24, slot := 2, constantValue := 0 }]
  methods := #[k2m0, k2m1]
  instanceTypes := #[]
  staticTypes := #[.int, .double, .double]
  resolved := Array.replicate 241 none
  statics := none }

def pool3 : Array CpInfo := pool [(1, u "java/lang/Cloneable"), (0, .class_ 1), (0, u "java/lang/Object"), (0, .class_ 3)] 3

/-- java/lang/Cloneable -/
def k3 : Class := { plain "java/lang/Cloneable" (some 0) with
  accessFlags := 1537
  interfaces := #[]
  cf := some (fileOf pool3 2 #[] #[] 1537 4 #[] #[])
  fields := #[]
  methods := #[]
  instanceTypes := #[]
  staticTypes := #[]
  resolved := Array.replicate 8 none
  statics := none }

def pool4 : Array CpInfo := pool [(1, u "java/io/Serializable"), (0, .class_ 1), (0, u "java/lang/Object"), (0, .class_ 3)] 3

/-- java/io/Serializable -/
def k4 : Class := { plain "java/io/Serializable" (some 0) with
  accessFlags := 1537
  interfaces := #[]
  cf := some (fileOf pool4 2 #[] #[] 1537 4 #[] #[])
  fields := #[]
  methods := #[]
  instanceTypes := #[]
  staticTypes := #[]
  resolved := Array.replicate 8 none
  statics := none }

/-- the primitive byte -/
def k5 : Class := { plain "byte" none with kind := .primitive 'B', accessFlags := 0x411 }
/-- [B -/
def k6 : Class := { plain "[B" (some 0) with kind := .array 5 .byte, interfaces := #[3, 4], accessFlags := 1041 }

/-- the primitive int -/
def k7 : Class := { plain "int" none with kind := .primitive 'I', accessFlags := 0x411 }
/-- [I -/
def k8 : Class := { plain "[I" (some 0) with kind := .array 7 .int, interfaces := #[3, 4], accessFlags := 1041 }

def heap : Heap := #[]
def classes : Array Class := #[k0, k1, k2, k3, k4, k5, k6, k7, k8]
def interned : List (Array UInt16 × Addr) := []
def slotsUsed : Nat := 0
def theMethod : MethodId := ⟨1, 1⟩
def args0 : Array Value := #[.long 5, .long 3, .int 1]
def aboutOver (below : List Frame) : State where
  vm := { classes := classes, interned := interned.toArray }
  heap := heap
  slotsUsed := slotsUsed
  threads := #[{ frames := .invoking theMethod args0 :: below }]
def below0 : List Frame := [.native { method := ⟨0, 0⟩, args := #[] }]
def about1 : State := aboutOver below0
def p0 : Program := .bare "" "" ""
def e0 : Env := launch0.env 0 0 0
theorem w_frames : about1.frames = Frame.invoking theMethod args0 :: below0 := rfl
set_option maxRecDepth 65536 in
theorem w_args : argsFit about1.vm theMethod args0 = true := by decide +kernel
set_option maxRecDepth 65536 in
theorem w_heap : heapFits about1 = true := by decide +kernel
set_option maxRecDepth 65536 in
theorem w_runnable : about1.curStatus? = some .runnable := by decide +kernel
set_option maxRecDepth 65536 in
theorem w_alone : about1.alone = true := by decide +kernel
set_option maxRecDepth 65536 in
theorem w_named : about1.methodNamed? x = some theMethod := by decide +kernel
set_option maxRecDepth 65536 in
theorem w_hears : about1.hears theMethod below0 = true := by decide +kernel
set_option maxRecDepth 65536 in
theorem w_ripe : about1.ripe theMethod args0 below0 = true := by decide +kernel
theorem w_running : about1.status = .running := rfl
set_option maxRecDepth 65536 in
theorem w_room : about1.hasRoom e0.platform room_1 = true :=
  launch0.hasRoom_least _ room_1 (by decide +kernel) (by decide +kernel) (by decide +kernel) (by decide +kernel) (by decide +kernel) (by decide +kernel)
theorem allAtoms_all (ts : List Jvm.Cond) (a : Array Jvm.Value) (st : Jvm.State) : (allAtoms ts).before a st = ts.all (fun c => c.before a st) := by
  induction ts with
  | nil => rfl
  | cons c t ih =>
    show (Jvm.Cond.and c (allAtoms t)).before a st = _
    rw [Jvm.Cond.before_and, ih, List.all_cons]
def words1 : List Jvm.Cond := Jvm.Cond.code x code maxLocals ret :: tables_1
/-- a 'code' word, met by the world's own term for the bytes: nothing is compared byte by byte -/
theorem code_word {y : MethodName} {bytes : ByteArray} {mx : Nat} {rt : Option FieldType} {a : Array Value} {s : State} {m : MethodId} {meth : Method} {c : Code} (h1 : s.methodNamed? y = some m) (h2 : s.vm.method? m = some meth) (h3 : meth.code = some c) (h4 : c.code = bytes)
    (h5 : (c.maxLocals == mx && c.exceptionTable.isEmpty && decide (c.maxStack ≤ mostOperands) && decide (meth.sig.returnType = rt) && !meth.locks && decide (parseMethodDescriptor y.desc = some meth.sig)) = true) : (Jvm.Cond.code y bytes mx rt).before a s = true := by
  simp only [Bool.and_eq_true, beq_iff_eq, Bool.not_eq_true', decide_eq_true_eq] at h5
  obtain ⟨⟨⟨⟨⟨g1, g2⟩, g3⟩, g4⟩, g5⟩, g6⟩ := h5
  simp [Cond.before, Cond.holds, Cond.value, h1, h2, h3, h4, g1, g2, g3, g4, g5, g6]
def isCode : Jvm.Cond → Bool
  | .code _ _ _ _ => true
  | _ => false
theorem all_split {L : List Jvm.Cond} {P : Jvm.Cond → Bool} (h1 : L.all (fun c => isCode c || P c) = true) (h2 : ∀ c ∈ L.filter isCode, P c = true) : L.all P = true := by
  refine List.all_eq_true.mpr fun c hc => ?_
  have h := List.all_eq_true.mp h1 c hc
  rcases Bool.eq_false_or_eq_true (isCode c) with hi | hi
  · exact h2 c (List.mem_filter.mpr ⟨hc, hi⟩)
  · simpa [hi] using h
set_option maxRecDepth 65536 in
theorem w_c0 : (Jvm.Cond.code x code maxLocals ret).before args0 about1 = true := code_word (m := ⟨1, 1⟩) (meth := k1m1) (c := k1c1) (by decide +kernel) rfl rfl rfl (by decide +kernel)
set_option maxRecDepth 65536 in
theorem w_c1 : (Jvm.Cond.code ({ cls := "com/example/topics_into_queries/topicsintoqueries/SphericalKMeans", name := "higher", desc := "(DD)Z" } : Jvm.MethodName) prog_18_method_3_code (4 : Nat) (Option.some Jvm.ClassFile.FieldType.boolean)).before args0 about1 = true := code_word (m := ⟨2, 1⟩) (meth := k2m1) (c := k2c1) (by decide +kernel) rfl rfl rfl (by decide +kernel)
def codes1 : List Jvm.Cond := [Jvm.Cond.code x code maxLocals ret, Jvm.Cond.code ({ cls := "com/example/topics_into_queries/topicsintoqueries/SphericalKMeans", name := "higher", desc := "(DD)Z" } : Jvm.MethodName) prog_18_method_3_code (4 : Nat) (Option.some Jvm.ClassFile.FieldType.boolean)]
set_option maxRecDepth 65536 in
theorem codes_eq : words1.filter isCode = codes1 := rfl
theorem w_codes : ∀ c ∈ words1.filter isCode, c.before args0 about1 = true := by
  rw [codes_eq]
  intro c hc
  simp only [codes1, List.mem_cons, List.not_mem_nil, or_false] at hc
  rcases hc with rfl | rfl
  · exact w_c0
  · exact w_c1
set_option maxRecDepth 65536 in
theorem w_t1 : words1.all (fun c => isCode c || c.before args0 about1) = true := by decide +kernel
theorem w_tables : (allAtoms (Jvm.Cond.code x code maxLocals ret :: tables_1)).before args0 about1 = true := by
  rw [allAtoms_all]
  show words1.all (fun c => c.before args0 about1) = true
  refine all_split ?_ w_codes
  rw [w_t1]
set_option maxRecDepth 65536 in
theorem w_case : (Jvm.Cond.and given_1 narrow_1).before args0 about1 = true := by decide +kernel
theorem w_applies : (headSpec (Jvm.Cond.code x code maxLocals ret :: tables_1) room_1).applies x e0.platform about1 = true :=
  (Spec.applies_iff w_frames).mpr ⟨w_running, w_runnable, w_alone, w_named, w_hears, w_ripe, w_room, w_tables⟩
theorem atStart : AtStart classFile x code maxLocals ret World_1 tables_1 room_1 Calls_1 rest_1 Pre_1 launch0 p0 e0 about1 theMethod args0 below0 :=
  ⟨lists_1, trivial, launch0.admits_env _ _ _, launch0.least_env, fairChoices_fair.cas, fairChoices_fair.clock, w_frames, w_args, w_heap, w_applies, trivial, trivial, w_case⟩
end start1
theorem witness_1 : WitnessClaimed_1 := ⟨start1.p0, start1.e0, start1.about1, start1.theMethod, start1.args0, start1.below0, start1.atStart⟩
end Jvm.Pilot.@@N@@
