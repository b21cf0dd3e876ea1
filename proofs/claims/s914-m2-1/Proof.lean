import JvmDerived
import JvmDerived.Pilot.@@N@@Statement
import JvmDerived.Pilot.@@N@@Code
set_option linter.unusedVariables false
set_option linter.unusedSimpArgs false
namespace Jvm.Pilot.@@N@@
open Jvm Jvm.ClassFile Sem Op Lib Jvm.Free Jvm.Stand Jvm.LawKit Jvm.RoadKit Bundle Jvm.Pilot.@@N@@.Jvm.D
theorem own_k {Z : State} {a0 : Array Value} (hw : ∀ d ∈ tables_1, d.before a0 Z = true) (i : Nat) {d : Jvm.Cond} (h : tables_1[i]? = some d) : d.before a0 Z = true := hw _ (List.mem_of_getElem? h)
abbrev own_EL : List (String × Nat) := [("java/lang/String", 7)]
section OwnWide
variable {p : Program} {l : Launch} {e : Env} {R : Room} {s : State} {args : Array Value} {below : List Frame} {Z : State} {a0 : Array Value} {EL : List (String × Nat)} {h : Heap} {vm0 : Vm}
/-- a callee whose law keeps the held constants and asks that some cells are none of theirs -/
theorem own_backSQ {y : MethodName} {bytes : ByteArray} {maxL : Nat} {ret : Option FieldType} {rm : Room} {len W : Nat} {as' : Array Value} {Q : Option Value → Heap → List Loc → Prop} {qs : List Addr}
    (hM : MetFree l y (head1 [Jvm.Cond.code y bytes maxL ret] rm) (fun a U => a = as' ∧ Z.Warmed39 U.vm ∧ U.heap = h ∧ CHv Z EL U.vm h ∧ ∀ x ∈ qs, Safe Z EL U.vm h x) (fun _ _ _ _ _ => True) (fun _ U o U' => ∃ v L, o = .returned v ∧ Q v U'.heap L ∧ CHr Z EL U.vm U.heap U'.vm U'.heap ∧ ReturnedEndW U o U' L rm.cells rm.slots))
    (hZ : Z.Warmed39 vm0) (wc : (Jvm.Cond.code y bytes maxL ret).before a0 Z = true) (wz : (Jvm.Cond.initialized y.cls).before a0 Z = true) (hf : rm.frames + 1 ≤ R.frames) (hl : W + (maxL + 11) + rm.locals ≤ R.locals) (hEL : EW Z a0 EL) (H : CHv Z EL vm0 h) (hq : ∀ x ∈ qs, Safe Z EL vm0 h x) (hlt : ∀ x ∈ qs, x < h.size) :
    BackS l R p e below (s.setVm vm0) args y len W (fun A a => a = as' ∧ A.U.heap = h ∧ A.cells + rm.cells ≤ R.cells ∧ A.slots + rm.slots ≤ R.slots)
      (fun A _ v B => ∃ L, Q v B.U.heap L ∧ B.locs = A.locs ++ L ∧ B.cells = A.cells + rm.cells ∧ B.slots = A.slots + rm.slots ∧ CHr Z EL vm0 h B.U.vm B.U.heap) := by
  refine BackS.of_freeW (bytes := bytes) (maxL := maxL) (ret := ret) (E := fun _ first o t L k n => k = rm.cells ∧ n = rm.slots ∧ (∃ v, o = .returned v ∧ Q v t.heap L) ∧ CHr Z EL first.vm first.heap t.vm t.heap) hM hf hl ?_ ?_ (fun _ _ _ _ _ _ _ _ _ => trivial) ?_ ?_
  · intro m meth c A a Y hp
    have hU : Z.Warmed39 A.U.vm := wtrans (s := s.setVm vm0) hZ Y.warmed
    refine ⟨?_, mv hU wc, mv hU wz, hp.2.2.1, hp.2.2.2⟩
    show (Jvm.Cond.and _ .tt).before a A.U = true
    rw [Cond.before_and, mv hU wc]; rfl
  · intro m meth c A a g mk Y hp
    have B := CHv.at Y hZ hEL H
    exact ⟨hp.1, wtrans (s := s.setVm vm0) hZ Y.warmed, hp.2.1, B.1, fun x hx => B.safe (hlt x hx) (hq x hx)⟩
  · rintro a first o t ⟨v, L, h1, h2, h3, h4⟩
    exact ⟨L, _, _, h4, rfl, rfl, ⟨v, h1, h2⟩, h3⟩
  · rintro m meth c A a g mk v t L k n Y hp - - ⟨e1, e2, ⟨v', e3, e4⟩, e5⟩
    cases e3; subst e1 e2
    refine ⟨L, e4, rfl, rfl, rfl, (CHv.at Y hZ hEL H).trans ?_⟩
    rw [← hp.2.1]; exact e5
end OwnWide
/-- a char -/
def own_H (c : Int32) : Prop := ¬ c < 0 ∧ ¬ (65535 : Int32) < c
theorem own_Hb {c : Int32} (h : own_H c) : 0 ≤ c.toInt ∧ c.toInt ≤ 65535 := by
  obtain ⟨h1, h2⟩ := h
  rw [Int32.lt_iff_toInt_lt] at h1 h2
  have e0 : (0 : Int32).toInt = 0 := rfl
  have e1 : (65535 : Int32).toInt = 65535 := rfl
  omega
theorem own_i2c (x : Int32) : own_H (x.toUInt32.toUInt16.toUInt32.toInt32) := by
  have q := c_i2c x
  have e0 : (0 : Int32).toInt = 0 := rfl
  have e1 : (65535 : Int32).toInt = 65535 := rfl
  unfold own_H
  rw [Int32.lt_iff_toInt_lt, Int32.lt_iff_toInt_lt]
  omega
theorem own_narE {c : Int32} (h : own_H c) : nar .char c = c := by
  have h := own_Hb h
  have q := c_i2c c
  show c.toUInt32.toUInt16.toUInt32.toInt32 = c
  rw [← Int32.toInt_inj]
  omega
theorem own_narH (x : Int32) : own_H (nar .char x) := own_i2c x
abbrev own_lo (c : Int32) : Int32 := (((c >>> ((0 : Int32) &&& 31)).toInt8.toInt32).toInt8.toInt32)
abbrev own_hi (c : Int32) : Int32 := (((c >>> ((8 : Int32) &&& 31)).toInt8.toInt32).toInt8.toInt32)
abbrev own_bb (c : Int32) : Int32 := ((c.toInt8.toInt32).toInt8.toInt32)
abbrev own_d16 (a b : Int32) : Int32 := ((((a &&& (255 : Int32)) <<< ((0 : Int32) &&& 31)) ||| ((b &&& (255 : Int32)) <<< ((8 : Int32) &&& 31))).toUInt32.toUInt16.toUInt32.toInt32)
abbrev own_d8 (a : Int32) : Int32 := ((a &&& (255 : Int32)).toUInt32.toUInt16.toUInt32.toInt32)
theorem own_dec16 {c : Int32} (h : own_H c) : nar .char (own_d16 (own_lo c) (own_hi c)) = c := by
  have hb := own_Hb h
  rw [own_narE (own_i2c _)]
  have s0 := c_ishr c (0 : Int32) 0 rfl
  have s8 := c_ishr c (8 : Int32) 8 rfl
  have p0 : ((2 ^ 0 : Nat) : Int) = 1 := rfl
  have p8 : ((2 ^ 8 : Nat) : Int) = 256 := rfl
  rw [p0] at s0
  rw [p8] at s8
  have b0 := c_i2b (c >>> ((0 : Int32) &&& 31))
  have b0' := c_i2b (c >>> ((0 : Int32) &&& 31)).toInt8.toInt32
  have b8 := c_i2b (c >>> ((8 : Int32) &&& 31))
  have b8' := c_i2b (c >>> ((8 : Int32) &&& 31)).toInt8.toInt32
  have m0 := c_mask (own_lo c) (255 : Int32) 8 (by decide) rfl
  have m8 := c_mask (own_hi c) (255 : Int32) 8 (by decide) rfl
  rw [p8] at m0 m8
  have l0 := c_ishl (own_lo c &&& (255 : Int32)) (0 : Int32) 0 rfl
  have l8 := c_ishl (own_hi c &&& (255 : Int32)) (8 : Int32) 8 rfl
  rw [p0] at l0
  rw [p8] at l8
  have r0 := rng32 ((own_lo c &&& (255 : Int32)) <<< ((0 : Int32) &&& 31))
  have r8 := rng32 ((own_hi c &&& (255 : Int32)) <<< ((8 : Int32) &&& 31))
  have q := c_or' ((own_lo c &&& (255 : Int32)) <<< ((0 : Int32) &&& 31)) ((own_hi c &&& (255 : Int32)) <<< ((8 : Int32) &&& 31)) 8 (by decide) 256 rfl
  have u := c_i2c (((own_lo c &&& (255 : Int32)) <<< ((0 : Int32) &&& 31)) ||| ((own_hi c &&& (255 : Int32)) <<< ((8 : Int32) &&& 31)))
  rw [← Int32.toInt_inj]
  show ((((own_lo c &&& (255 : Int32)) <<< ((0 : Int32) &&& 31)) ||| ((own_hi c &&& (255 : Int32)) <<< ((8 : Int32) &&& 31))).toUInt32.toUInt16.toUInt32.toInt32).toInt = _
  unfold own_lo own_hi at *
  generalize ((((((c >>> ((0 : Int32) &&& 31)).toInt8.toInt32).toInt8.toInt32) &&& (255 : Int32)) <<< ((0 : Int32) &&& 31)) ||| (((((c >>> ((8 : Int32) &&& 31)).toInt8.toInt32).toInt8.toInt32) &&& (255 : Int32)) <<< ((8 : Int32) &&& 31))) = w at *
  generalize (((((c >>> ((0 : Int32) &&& 31)).toInt8.toInt32).toInt8.toInt32) &&& (255 : Int32)) <<< ((0 : Int32) &&& 31)) = w0 at *
  generalize (((((c >>> ((8 : Int32) &&& 31)).toInt8.toInt32).toInt8.toInt32) &&& (255 : Int32)) <<< ((8 : Int32) &&& 31)) = w8 at *
  generalize ((((c >>> ((0 : Int32) &&& 31)).toInt8.toInt32).toInt8.toInt32) &&& (255 : Int32)) = v0 at *
  generalize ((((c >>> ((8 : Int32) &&& 31)).toInt8.toInt32).toInt8.toInt32) &&& (255 : Int32)) = v8 at *
  have q' := q (by omega) (by omega) (by omega)
  have rw := rng32 w
  omega
theorem own_dec8 {c : Int32} (h : own_H c) (h2 : ¬ (255 : Int32) < c) : nar .char (own_d8 (own_bb c)) = c := by
  have hb := own_Hb h
  rw [Int32.lt_iff_toInt_lt] at h2
  have e1 : (255 : Int32).toInt = 255 := rfl
  rw [own_narE (own_i2c _)]
  have b0 := c_i2b c
  have b0' := c_i2b c.toInt8.toInt32
  have m0 := c_mask (own_bb c) (255 : Int32) 8 (by decide) rfl
  have p8 : ((2 ^ 8 : Nat) : Int) = 256 := rfl
  rw [p8] at m0
  have u := c_i2c (own_bb c &&& (255 : Int32))
  rw [← Int32.toInt_inj]
  show ((own_bb c &&& (255 : Int32)).toUInt32.toUInt16.toUInt32.toInt32).toInt = _
  unfold own_bb at *
  omega
/-- how a String of n chars lies in the heap -/
def own_Rep (n c0 c1 cc ll : Int32) (vv : List Value) : Prop :=
  (n = 0 ∧ cc = 0 ∧ ll = 0 ∧ vv = []) ∨
  (n = 1 ∧ cc = 0 ∧ ll = 1 ∧ vv = [.int (own_bb c0)] ∧ ¬ (255 : Int32) < c0) ∨
  (n = 1 ∧ cc = 1 ∧ ll = 2 ∧ vv = [.int (own_lo c0), .int (own_hi c0)]) ∨
  (n = 2 ∧ cc = 0 ∧ ll = 2 ∧ vv = [.int (own_bb c0), .int (own_bb c1)] ∧ ¬ (255 : Int32) < c0 ∧ ¬ (255 : Int32) < c1) ∨
  (n = 2 ∧ cc = 1 ∧ ll = 4 ∧ vv = [.int (own_lo c0), .int (own_hi c0), .int (own_lo c1), .int (own_hi c1)])
theorem own_RepN {n c0 c1 cc ll : Int32} {vv : List Value} (h : own_Rep n c0 c1 cc ll vv) : n = 0 ∨ n = 1 ∨ n = 2 := by
  rcases h with ⟨h, -⟩ | ⟨h, -⟩ | ⟨h, -⟩ | ⟨h, -⟩ | ⟨h, -⟩
  · exact Or.inl h
  · exact Or.inr (Or.inl h)
  · exact Or.inr (Or.inl h)
  · exact Or.inr (Or.inr h)
  · exact Or.inr (Or.inr h)
def own_N (n : Int32) : Prop := n = 0 ∨ n = 1 ∨ n = 2
theorem own_mod3 (x : Int32) : own_N ((x &&& (3 : Int32)) % (3 : Int32)) := by
  have b := c_and x (3 : Int32) (by decide)
  have r := (c_irem (x &&& (3 : Int32)) (3 : Int32) 3 rfl).1 b.1
  have e0 : (0 : Int32).toInt = 0 := rfl
  have e1 : (1 : Int32).toInt = 1 := rfl
  have e2 : (2 : Int32).toInt = 2 := rfl
  unfold own_N
  simp only [← Int32.toInt_inj]
  omega
def own_ic (a b : Int32) : Int32 := if a < b then -1 else if a = b then 0 else 1
def own_rk (u : Int32) : Int32 := if ¬ u < (55296 : Int32) ∧ u < (57344 : Int32) then u + (65536 : Int32) else u
def own_sg (r : Int32) : Int32 := if r < (0 : Int32) then -1 else if (0 : Int32) < r then 1 else 0
def own_key (u : Int32) : Int32 := if u < (55296 : Int32) then u else if (57343 : Int32) < u then u - (2048 : Int32) else u + (8192 : Int32)
def own_mn (a b : Int32) : Int32 := if b < a then b else a
def own_cmp (n m x0 x1 y0 y1 : Int32) : Int32 :=
  if (0 : Int32) < own_mn n m ∧ ¬ x0 = y0 then own_ic (own_rk x0) (own_rk y0) else if (1 : Int32) < own_mn n m ∧ ¬ x1 = y1 then own_ic (own_rk x1) (own_rk y1) else own_ic n m
theorem own_core {x y : Int32} (hx : own_H x) (hy : own_H y) : own_sg (own_ic (own_rk x) (own_rk y)) = own_sg (own_key x - own_key y) := by
  have bx := own_Hb hx
  have bz := own_Hb hy
  have e1 : (55296 : Int32).toInt = 55296 := rfl
  have e2 : (57344 : Int32).toInt = 57344 := rfl
  have e3 : (57343 : Int32).toInt = 57343 := rfl
  have e4 : (2048 : Int32).toInt = 2048 := rfl
  have e5 : (8192 : Int32).toInt = 8192 := rfl
  have e6 : (65536 : Int32).toInt = 65536 := rfl
  have e0 : (0 : Int32).toInt = 0 := rfl
  have rk : ∀ u : Int32, 0 ≤ u.toInt ∧ u.toInt ≤ 65535 → (own_rk u).toInt = if 55296 ≤ u.toInt ∧ u.toInt < 57344 then u.toInt + 65536 else u.toInt := by
    intro u hu
    unfold own_rk
    have c := c_iadd u (65536 : Int32)
    have r := rng32 (u + (65536 : Int32))
    split <;> rename_i h <;> simp only [Int32.lt_iff_toInt_lt] at h <;> split <;> omega
  have ky : ∀ u : Int32, 0 ≤ u.toInt ∧ u.toInt ≤ 65535 → (own_key u).toInt = if u.toInt < 55296 then u.toInt else if 57343 < u.toInt then u.toInt - 2048 else u.toInt + 8192 := by
    intro u hu
    unfold own_key
    have c := c_iadd u (8192 : Int32)
    have r := rng32 (u + (8192 : Int32))
    have c' := c_isub u (2048 : Int32)
    have r' := rng32 (u - (2048 : Int32))
    by_cases h1 : u < (55296 : Int32)
    · rw [if_pos h1]; rw [Int32.lt_iff_toInt_lt] at h1; split <;> (try split) <;> omega
    · rw [if_neg h1]; rw [Int32.lt_iff_toInt_lt] at h1
      by_cases h2 : (57343 : Int32) < u
      · rw [if_pos h2]; rw [Int32.lt_iff_toInt_lt] at h2; split <;> (try split) <;> omega
      · rw [if_neg h2]; rw [Int32.lt_iff_toInt_lt] at h2; split <;> (try split) <;> omega
  have kx := ky x bx
  have kz := ky y bz
  have rx := rk x bx
  have rz := rk y bz
  have d := c_isub (own_key x) (own_key y)
  have dr := rng32 (own_key x - own_key y)
  have lt : own_rk x < own_rk y ↔ (own_key x - own_key y).toInt < 0 := by
    rw [Int32.lt_iff_toInt_lt, rx, rz]
    split at kx <;> split at kz <;> (try split at kx) <;> (try split at kz) <;> split <;> split <;> constructor <;> intro h <;> omega
  have eq : own_rk x = own_rk y ↔ (own_key x - own_key y).toInt = 0 := by
    rw [← Int32.toInt_inj, rx, rz]
    split at kx <;> split at kz <;> (try split at kx) <;> (try split at kz) <;> split <;> split <;> constructor <;> intro h <;> omega
  unfold own_ic
  by_cases h1 : own_rk x < own_rk y
  · rw [if_pos h1]
    have h2 := lt.mp h1
    have h3 : own_key x - own_key y < (0 : Int32) := by rw [Int32.lt_iff_toInt_lt, e0]; exact h2
    unfold own_sg
    rw [if_pos h3]
    rfl
  · rw [if_neg h1]
    have h2 := mt lt.mpr h1
    have h3 : ¬ own_key x - own_key y < (0 : Int32) := by rw [Int32.lt_iff_toInt_lt, e0]; exact h2
    by_cases h4 : own_rk x = own_rk y
    · rw [if_pos h4]
      have h5 := eq.mp h4
      have h6 : ¬ (0 : Int32) < own_key x - own_key y := by rw [Int32.lt_iff_toInt_lt, e0]; omega
      unfold own_sg
      rw [if_neg h3, if_neg h6]
      rfl
    · rw [if_neg h4]
      have h5 := mt eq.mpr h4
      have h6 : (0 : Int32) < own_key x - own_key y := by rw [Int32.lt_iff_toInt_lt, e0]; omega
      unfold own_sg
      rw [if_neg h3, if_pos h6]
      rfl
theorem own_len {n m : Int32} (hn : own_N n) (hm : own_N m) : own_sg (own_ic n m) = own_sg (n - m) := by
  rcases hn with rfl | rfl | rfl <;> rcases hm with rfl | rfl | rfl <;> decide
theorem own_l1 {n m x0 x1 y0 y1 : Int32} (hn : own_N n) (hm : own_N m) (hx : own_H x0) (hy : own_H y0) (h1 : ¬ own_mn n m < (1 : Int32)) (h2 : ¬ x0 = y0) : own_sg (own_cmp n m x0 x1 y0 y1) = own_sg (own_key x0 - own_key y0) := by
  unfold own_cmp
  have h3 : (0 : Int32) < own_mn n m := by rcases hn with rfl | rfl | rfl <;> rcases hm with rfl | rfl | rfl <;> revert h1 <;> decide
  rw [if_pos ⟨h3, h2⟩]
  exact own_core hx hy
theorem own_l2 {n m x0 x1 y0 y1 : Int32} (hn : own_N n) (hm : own_N m) (hx : own_H x1) (hy : own_H y1) (h0 : x0 = y0) (h1 : ¬ own_mn n m < (2 : Int32)) (h2 : ¬ x1 = y1) : own_sg (own_cmp n m x0 x1 y0 y1) = own_sg (own_key x1 - own_key y1) := by
  unfold own_cmp
  have h3 : (1 : Int32) < own_mn n m := by rcases hn with rfl | rfl | rfl <;> rcases hm with rfl | rfl | rfl <;> revert h1 <;> decide
  rw [if_neg (fun q => q.2 h0), if_pos ⟨h3, h2⟩]
  exact own_core hx hy
theorem own_l3 {n m x0 x1 y0 y1 : Int32} (hn : own_N n) (hm : own_N m) (h0 : own_mn n m < (1 : Int32) ∨ x0 = y0) (h1 : own_mn n m < (2 : Int32) ∨ x1 = y1) : own_sg (own_cmp n m x0 x1 y0 y1) = own_sg (n - m) := by
  unfold own_cmp
  have k0 : ¬ ((0 : Int32) < own_mn n m ∧ ¬ x0 = y0) := by
    rintro ⟨q1, q2⟩
    rcases h0 with q | q
    · revert q q1; rcases hn with rfl | rfl | rfl <;> rcases hm with rfl | rfl | rfl <;> decide
    · exact q2 q
  have k1 : ¬ ((1 : Int32) < own_mn n m ∧ ¬ x1 = y1) := by
    rintro ⟨q1, q2⟩
    rcases h1 with q | q
    · revert q q1; rcases hn with rfl | rfl | rfl <;> rcases hm with rfl | rfl | rfl <;> decide
    · exact q2 q
  rw [if_neg k0, if_neg k1]
  exact own_len hn hm
theorem own_eqv {t : Term} {k : Int32} {args : Array Value} {first s : State} {o : Option Outcome} {idx : List Nat} (h : (Cond.eq t (.int k)).value args first o s idx = some true) : t.eval args first o idx s = some (.int k) := by
  simp only [Cond.value, Term.eval] at h
  cases ht : t.eval args first o idx s with
  | none => simp [ht] at h
  | some x => cases x <;> simp [ht] at h ⊢ <;> exact h
theorem own_pn_0 : plainName "java/lang/Integer" = true := by first | (simp [plainName, overriddenIn]; done) | decide +kernel
theorem d13_0 : decode jdk_33_method_40_code 0 = .ok (.iload_n 0, 1) := by decide +kernel
theorem d13_1 : decode jdk_33_method_40_code 1 = .ok (.iload_n 1, 1) := by decide +kernel
theorem d13_2 : decode jdk_33_method_40_code 2 = .ok (.if_icmp .ge 7, 3) := by decide +kernel
theorem d13_5 : decode jdk_33_method_40_code 5 = .ok (.iconst (-1), 1) := by decide +kernel
theorem d13_6 : decode jdk_33_method_40_code 6 = .ok (.goto 13, 3) := by decide +kernel
theorem d13_19 : decode jdk_33_method_40_code 19 = .ok (.ireturn, 1) := by decide +kernel
theorem d13_9 : decode jdk_33_method_40_code 9 = .ok (.iload_n 0, 1) := by decide +kernel
theorem d13_10 : decode jdk_33_method_40_code 10 = .ok (.iload_n 1, 1) := by decide +kernel
theorem d13_11 : decode jdk_33_method_40_code 11 = .ok (.if_icmp .ne 7, 3) := by decide +kernel
theorem d13_14 : decode jdk_33_method_40_code 14 = .ok (.iconst 0, 1) := by decide +kernel
theorem d13_15 : decode jdk_33_method_40_code 15 = .ok (.goto 4, 3) := by decide +kernel
theorem d13_18 : decode jdk_33_method_40_code 18 = .ok (.iconst 1, 1) := by decide +kernel
theorem ef_ic (m : MethodId) (q1 : Int32) (q2 : Int32) : entryFrame m #[(.int q1), (.int q2)] 2 = mkF m 0 #[.val (.int q1), .val (.int q2)] [] := by first | (simp [entryFrame, mkF, argsToLocals, Value.category]; done) | rfl
def Qic (Z : State) (q1 : Int32) (q2 : Int32) (h0 : Heap) (n0 : Nat) (v : Option Value) (h : Heap) (L : List Loc) : Prop := Fr n0 L ∧ h = h0 ∧ (v = some (.int (own_ic q1 q2)))
set_option maxRecDepth 65536 in
set_option maxHeartbeats 40000000 in
theorem rmIc (l : Launch) (Z : State) (a0 : Array Value) (hw : ∀ d ∈ tables_1, d.before a0 Z = true) (ws : List Jvm.Cond) (q1 : Int32) (q2 : Int32) (h0 : Heap) (n0 : Nat) (Z0 : n0 ≤ h0.size)  :
    MetFree l (⟨"java/lang/Integer", "compare", "(II)I"⟩ : MethodName) (head1 (Jvm.Cond.code (⟨"java/lang/Integer", "compare", "(II)I"⟩ : MethodName) jdk_33_method_40_code 2 (some .int) :: ws) ({ frames := 0, cells := 0, slots := 0, locals := 0 } : Room)) (fun a U => a = #[(.int q1), (.int q2)] ∧ Z.Warmed39 U.vm ∧ U.heap = h0) (fun _ _ _ _ _ => True) (fun _ U o U' => ∃ v L, o = .returned v ∧ Qic Z q1 q2 h0 n0 v U'.heap L ∧ FrameEnd U o U' L ({ frames := 0, cells := 0, slots := 0, locals := 0 } : Room).cells ({ frames := 0, cells := 0, slots := 0, locals := 0 } : Room).slots) := by
  refine MetFree.of_bodySF (plainFor_of_name own_pn_0) hisR ?_
  intro p e s m args below meth c s₁ Bd hml0 hP hK
  obtain ⟨rfl, hZ, hh⟩ := hP
  have hx := Bd.exec
  have hby := Bd.bytes
  have hml : c.maxLocals = 2 := hml0
  have hown : s.vm.findClass "java/lang/Integer" = some m.cls := findClass_of_methodNamed Bd.named
  have hnm := (name_of_methodNamed Bd.named Bd.method).1
  have X0 : Stand p l e ({ frames := 0, cells := 0, slots := 0, locals := 0 } : Room) s m #[(.int q1), (.int q2)] below meth c s₁ [] 0 0 := Stand.of_body Bd
  have e0 : s₁.heap = h0 := by rw [← hh, Bd.state]; rfl
  have N0 := Fr.nil n0
  have pre0 : ∀ t, Steps p.tables e below (s₁.setTop (mkF m 0 #[.val (.int q1), .val (.int q2)] [])) t → Steps p.tables e below (s₁.setTop (entryFrame m #[(.int q1), (.int q2)] 2)) t := fun t k => castTop (ef_ic m q1 q2) k
  have pre1 : ∀ t, Steps p.tables e below (s₁.setTop (mkF m 2 #[.val (.int q1), .val (.int q2)] [(.int q2), (.int q1)])) t → Steps p.tables e below (s₁.setTop (entryFrame m #[(.int q1), (.int q2)] 2)) t := fun t kt => pre0 t (by
    show Steps p.tables e below (s₁.setTop (mkF m 0 #[.val (.int q1), .val (.int q2)] [])) _
    refine XS.iloadN X0.here hx rfl (hb hby d13_0) rfl ?_
    show Steps p.tables e below (s₁.setTop (mkF m 1 #[.val (.int q1), .val (.int q2)] [(.int q1)])) _
    refine XS.iloadN X0.here hx rfl (hb hby d13_1) rfl ?_
    exact kt)
  by_cases hcx2 : q1 < q2
  · skip
    obtain ⟨fs, hr, hrun, hended, hW, hsame⟩ := X0.leave (v := (some (.int (-1 : Int32)))) (fun h => by rw [Bd.returns] at h; cases h)
    refine ⟨_, _, pre1 _ ?_, hrun, hended, _, _, rfl, ?_, ⟨_, rfl⟩, hW, hsame.mono (by decide) (by decide)⟩
    · show Steps p.tables e below (s₁.setTop (mkF m 2 #[.val (.int q1), .val (.int q2)] [(.int q2), (.int q1)])) _
      refine XS.icmpNo X0.here hx rfl (hb hby d13_2) rfl (tlt hcx2).2.1 ?_
      show Steps p.tables e below (s₁.setTop (mkF m 5 #[.val (.int q1), .val (.int q2)] [])) _
      refine XS.iconst X0.here hx rfl (hb hby d13_5) ?_
      show Steps p.tables e below (s₁.setTop (mkF m 6 #[.val (.int q1), .val (.int q2)] [(.int (-1 : Int32))])) _
      refine XS.goto X0.here hx rfl (pc0 := 6) (pc' := 19) rfl (hb hby d13_6) (by decide) (by decide) ?_
      show Steps p.tables e below (s₁.setTop (mkF m 19 #[.val (.int q1), .val (.int q2)] [(.int (-1 : Int32))])) _
      exact retOut X0 hx Bd.returns rfl (Or.inl ⟨rfl, Or.inl rfl, _, rfl⟩) (hb hby d13_19) hr
    · show Qic Z q1 q2 h0 n0 _ s₁.heap _
      rw [e0]
      exact ⟨N0, rfl, (by unfold own_ic; rw [if_pos hcx2])⟩
  · skip
    have pre3 : ∀ t, Steps p.tables e below (s₁.setTop (mkF m 11 #[.val (.int q1), .val (.int q2)] [(.int q2), (.int q1)])) t → Steps p.tables e below (s₁.setTop (entryFrame m #[(.int q1), (.int q2)] 2)) t := fun t kt => pre1 t (by
      show Steps p.tables e below (s₁.setTop (mkF m 2 #[.val (.int q1), .val (.int q2)] [(.int q2), (.int q1)])) _
      refine XS.icmpYes X0.here hx rfl (pc0 := 2) (pc' := 9) rfl (hb hby d13_2) rfl (flt hcx2).2.1 (by decide) (by decide) ?_
      show Steps p.tables e below (s₁.setTop (mkF m 9 #[.val (.int q1), .val (.int q2)] [])) _
      refine XS.iloadN X0.here hx rfl (hb hby d13_9) rfl ?_
      show Steps p.tables e below (s₁.setTop (mkF m 10 #[.val (.int q1), .val (.int q2)] [(.int q1)])) _
      refine XS.iloadN X0.here hx rfl (hb hby d13_10) rfl ?_
      exact kt)
    by_cases hcx4 : q1 = q2
    · skip
      obtain ⟨fs, hr, hrun, hended, hW, hsame⟩ := X0.leave (v := (some (.int (0 : Int32)))) (fun h => by rw [Bd.returns] at h; cases h)
      refine ⟨_, _, pre3 _ ?_, hrun, hended, _, _, rfl, ?_, ⟨_, rfl⟩, hW, hsame.mono (by decide) (by decide)⟩
      · show Steps p.tables e below (s₁.setTop (mkF m 11 #[.val (.int q1), .val (.int q2)] [(.int q2), (.int q1)])) _
        refine XS.icmpNo X0.here hx rfl (hb hby d13_11) rfl (teq hcx4).2 ?_
        show Steps p.tables e below (s₁.setTop (mkF m 14 #[.val (.int q1), .val (.int q2)] [])) _
        refine XS.iconst X0.here hx rfl (hb hby d13_14) ?_
        show Steps p.tables e below (s₁.setTop (mkF m 15 #[.val (.int q1), .val (.int q2)] [(.int (0 : Int32))])) _
        refine XS.goto X0.here hx rfl (pc0 := 15) (pc' := 19) rfl (hb hby d13_15) (by decide) (by decide) ?_
        show Steps p.tables e below (s₁.setTop (mkF m 19 #[.val (.int q1), .val (.int q2)] [(.int (0 : Int32))])) _
        exact retOut X0 hx Bd.returns rfl (Or.inl ⟨rfl, Or.inl rfl, _, rfl⟩) (hb hby d13_19) hr
      · show Qic Z q1 q2 h0 n0 _ s₁.heap _
        rw [e0]
        exact ⟨N0, rfl, (by unfold own_ic; rw [if_neg hcx2, if_pos hcx4])⟩
    · skip
      obtain ⟨fs, hr, hrun, hended, hW, hsame⟩ := X0.leave (v := (some (.int (1 : Int32)))) (fun h => by rw [Bd.returns] at h; cases h)
      refine ⟨_, _, pre3 _ ?_, hrun, hended, _, _, rfl, ?_, ⟨_, rfl⟩, hW, hsame.mono (by decide) (by decide)⟩
      · show Steps p.tables e below (s₁.setTop (mkF m 11 #[.val (.int q1), .val (.int q2)] [(.int q2), (.int q1)])) _
        refine XS.icmpYes X0.here hx rfl (pc0 := 11) (pc' := 18) rfl (hb hby d13_11) rfl (feq hcx4).2 (by decide) (by decide) ?_
        show Steps p.tables e below (s₁.setTop (mkF m 18 #[.val (.int q1), .val (.int q2)] [])) _
        refine XS.iconst X0.here hx rfl (hb hby d13_18) ?_
        show Steps p.tables e below (s₁.setTop (mkF m 19 #[.val (.int q1), .val (.int q2)] [(.int (1 : Int32))])) _
        exact retOut X0 hx Bd.returns rfl (Or.inl ⟨rfl, Or.inl rfl, _, rfl⟩) (hb hby d13_19) hr
      · show Qic Z q1 q2 h0 n0 _ s₁.heap _
        rw [e0]
        exact ⟨N0, rfl, (by unfold own_ic; rw [if_neg hcx2, if_neg hcx4])⟩
theorem d8_0 : decode jdk_29_method_69_code 0 = .ok (.iload_n 0, 1) := by decide +kernel
theorem d8_1 : decode jdk_29_method_69_code 1 = .ok (.iload_n 1, 1) := by decide +kernel
theorem d8_2 : decode jdk_29_method_69_code 2 = .ok (.if_icmp .gt 7, 3) := by decide +kernel
theorem d8_9 : decode jdk_29_method_69_code 9 = .ok (.iload_n 1, 1) := by decide +kernel
theorem d8_10 : decode jdk_29_method_69_code 10 = .ok (.ireturn, 1) := by decide +kernel
theorem d8_5 : decode jdk_29_method_69_code 5 = .ok (.iload_n 0, 1) := by decide +kernel
theorem d8_6 : decode jdk_29_method_69_code 6 = .ok (.goto 4, 3) := by decide +kernel
theorem ef_mn (m : MethodId) (q1 : Int32) (q2 : Int32) : entryFrame m #[(.int q1), (.int q2)] 2 = mkF m 0 #[.val (.int q1), .val (.int q2)] [] := by first | (simp [entryFrame, mkF, argsToLocals, Value.category]; done) | rfl
def Qmn (Z : State) (q1 : Int32) (q2 : Int32) (h0 : Heap) (n0 : Nat) (v : Option Value) (h : Heap) (L : List Loc) : Prop := Fr n0 L ∧ h = h0 ∧ (v = some (.int (own_mn q1 q2)))
set_option maxRecDepth 65536 in
set_option maxHeartbeats 40000000 in
theorem rmMn (l : Launch) (Z : State) (a0 : Array Value) (hw : ∀ d ∈ tables_1, d.before a0 Z = true) (ws : List Jvm.Cond) (q1 : Int32) (q2 : Int32) (h0 : Heap) (n0 : Nat) (Z0 : n0 ≤ h0.size)  :
    MetFree l (⟨"java/lang/Math", "min", "(II)I"⟩ : MethodName) (head1 (Jvm.Cond.code (⟨"java/lang/Math", "min", "(II)I"⟩ : MethodName) jdk_29_method_69_code 2 (some .int) :: ws) ({ frames := 0, cells := 0, slots := 0, locals := 0 } : Room)) (fun a U => a = #[(.int q1), (.int q2)] ∧ Z.Warmed39 U.vm ∧ U.heap = h0) (fun _ _ _ _ _ => True) (fun _ U o U' => ∃ v L, o = .returned v ∧ Qmn Z q1 q2 h0 n0 v U'.heap L ∧ FrameEnd U o U' L ({ frames := 0, cells := 0, slots := 0, locals := 0 } : Room).cells ({ frames := 0, cells := 0, slots := 0, locals := 0 } : Room).slots) := by
  refine MetFree.of_bodySF (Jvm.Free.JP.mathPlain rfl (by decide +kernel)) hisR ?_
  intro p e s m args below meth c s₁ Bd hml0 hP hK
  obtain ⟨rfl, hZ, hh⟩ := hP
  have hx := Bd.exec
  have hby := Bd.bytes
  have hml : c.maxLocals = 2 := hml0
  have hown : s.vm.findClass "java/lang/Math" = some m.cls := findClass_of_methodNamed Bd.named
  have hnm := (name_of_methodNamed Bd.named Bd.method).1
  have X0 : Stand p l e ({ frames := 0, cells := 0, slots := 0, locals := 0 } : Room) s m #[(.int q1), (.int q2)] below meth c s₁ [] 0 0 := Stand.of_body Bd
  have e0 : s₁.heap = h0 := by rw [← hh, Bd.state]; rfl
  have N0 := Fr.nil n0
  have pre0 : ∀ t, Steps p.tables e below (s₁.setTop (mkF m 0 #[.val (.int q1), .val (.int q2)] [])) t → Steps p.tables e below (s₁.setTop (entryFrame m #[(.int q1), (.int q2)] 2)) t := fun t k => castTop (ef_mn m q1 q2) k
  have pre1 : ∀ t, Steps p.tables e below (s₁.setTop (mkF m 2 #[.val (.int q1), .val (.int q2)] [(.int q2), (.int q1)])) t → Steps p.tables e below (s₁.setTop (entryFrame m #[(.int q1), (.int q2)] 2)) t := fun t kt => pre0 t (by
    show Steps p.tables e below (s₁.setTop (mkF m 0 #[.val (.int q1), .val (.int q2)] [])) _
    refine XS.iloadN X0.here hx rfl (hb hby d8_0) rfl ?_
    show Steps p.tables e below (s₁.setTop (mkF m 1 #[.val (.int q1), .val (.int q2)] [(.int q1)])) _
    refine XS.iloadN X0.here hx rfl (hb hby d8_1) rfl ?_
    exact kt)
  by_cases hcx2 : q2 < q1
  · skip
    obtain ⟨fs, hr, hrun, hended, hW, hsame⟩ := X0.leave (v := (some (.int q2))) (fun h => by rw [Bd.returns] at h; cases h)
    refine ⟨_, _, pre1 _ ?_, hrun, hended, _, _, rfl, ?_, ⟨_, rfl⟩, hW, hsame.mono (by decide) (by decide)⟩
    · show Steps p.tables e below (s₁.setTop (mkF m 2 #[.val (.int q1), .val (.int q2)] [(.int q2), (.int q1)])) _
      refine XS.icmpYes X0.here hx rfl (pc0 := 2) (pc' := 9) rfl (hb hby d8_2) rfl (tlt hcx2).2.2.1 (by decide) (by decide) ?_
      show Steps p.tables e below (s₁.setTop (mkF m 9 #[.val (.int q1), .val (.int q2)] [])) _
      refine XS.iloadN X0.here hx rfl (hb hby d8_9) rfl ?_
      show Steps p.tables e below (s₁.setTop (mkF m 10 #[.val (.int q1), .val (.int q2)] [(.int q2)])) _
      exact retOut X0 hx Bd.returns rfl (Or.inl ⟨rfl, Or.inl rfl, _, rfl⟩) (hb hby d8_10) hr
    · show Qmn Z q1 q2 h0 n0 _ s₁.heap _
      rw [e0]
      exact ⟨N0, rfl, (by unfold own_mn; rw [if_pos hcx2])⟩
  · skip
    obtain ⟨fs, hr, hrun, hended, hW, hsame⟩ := X0.leave (v := (some (.int q1))) (fun h => by rw [Bd.returns] at h; cases h)
    refine ⟨_, _, pre1 _ ?_, hrun, hended, _, _, rfl, ?_, ⟨_, rfl⟩, hW, hsame.mono (by decide) (by decide)⟩
    · show Steps p.tables e below (s₁.setTop (mkF m 2 #[.val (.int q1), .val (.int q2)] [(.int q2), (.int q1)])) _
      refine XS.icmpNo X0.here hx rfl (hb hby d8_2) rfl (flt hcx2).2.2.1 ?_
      show Steps p.tables e below (s₁.setTop (mkF m 5 #[.val (.int q1), .val (.int q2)] [])) _
      refine XS.iloadN X0.here hx rfl (hb hby d8_5) rfl ?_
      show Steps p.tables e below (s₁.setTop (mkF m 6 #[.val (.int q1), .val (.int q2)] [(.int q1)])) _
      refine XS.goto X0.here hx rfl (pc0 := 6) (pc' := 10) rfl (hb hby d8_6) (by decide) (by decide) ?_
      show Steps p.tables e below (s₁.setTop (mkF m 10 #[.val (.int q1), .val (.int q2)] [(.int q1)])) _
      exact retOut X0 hx Bd.returns rfl (Or.inl ⟨rfl, Or.inl rfl, _, rfl⟩) (hb hby d8_10) hr
    · show Qmn Z q1 q2 h0 n0 _ s₁.heap _
      rw [e0]
      exact ⟨N0, rfl, (by unfold own_mn; rw [if_neg hcx2])⟩
theorem ef_mo (m : MethodId) (q1 : Int32) (q2 : Int32) : entryFrame m #[(.int q1), (.int q2)] 2 = mkF m 0 #[.val (.int q1), .val (.int q2)] [] := by first | (simp [entryFrame, mkF, argsToLocals, Value.category]; done) | rfl
def Qmo (Z : State) (q1 : Int32) (q2 : Int32) (h0 : Heap) (n0 : Nat) (v : Option Value) (h : Heap) (L : List Loc) : Prop := Fr n0 L ∧ h = h0 ∧ ((v = some (.int q2) ∧ q2 < q1) ∨ (v = some (.int q1) ∧ ¬ (q2 < q1)))
set_option maxRecDepth 65536 in
set_option maxHeartbeats 40000000 in
theorem rmMo (l : Launch) (Z : State) (a0 : Array Value) (hw : ∀ d ∈ tables_1, d.before a0 Z = true) (ws : List Jvm.Cond) (q1 : Int32) (q2 : Int32) (h0 : Heap) (n0 : Nat) (Z0 : n0 ≤ h0.size)  :
    MetFree l (⟨"java/lang/Math", "min", "(II)I"⟩ : MethodName) (head1 (Jvm.Cond.code (⟨"java/lang/Math", "min", "(II)I"⟩ : MethodName) jdk_29_method_69_code 2 (some .int) :: ws) ({ frames := 0, cells := 0, slots := 0, locals := 0 } : Room)) (fun a U => a = #[(.int q1), (.int q2)] ∧ Z.Warmed39 U.vm ∧ U.heap = h0) (fun _ _ _ _ _ => True) (fun _ U o U' => ∃ v L, o = .returned v ∧ Qmo Z q1 q2 h0 n0 v U'.heap L ∧ FrameEnd U o U' L ({ frames := 0, cells := 0, slots := 0, locals := 0 } : Room).cells ({ frames := 0, cells := 0, slots := 0, locals := 0 } : Room).slots) := by
  refine MetFree.of_bodySF (Jvm.Free.JP.mathPlain rfl (by decide +kernel)) hisR ?_
  intro p e s m args below meth c s₁ Bd hml0 hP hK
  obtain ⟨rfl, hZ, hh⟩ := hP
  have hx := Bd.exec
  have hby := Bd.bytes
  have hml : c.maxLocals = 2 := hml0
  have hown : s.vm.findClass "java/lang/Math" = some m.cls := findClass_of_methodNamed Bd.named
  have hnm := (name_of_methodNamed Bd.named Bd.method).1
  have X0 : Stand p l e ({ frames := 0, cells := 0, slots := 0, locals := 0 } : Room) s m #[(.int q1), (.int q2)] below meth c s₁ [] 0 0 := Stand.of_body Bd
  have e0 : s₁.heap = h0 := by rw [← hh, Bd.state]; rfl
  have N0 := Fr.nil n0
  have pre0 : ∀ t, Steps p.tables e below (s₁.setTop (mkF m 0 #[.val (.int q1), .val (.int q2)] [])) t → Steps p.tables e below (s₁.setTop (entryFrame m #[(.int q1), (.int q2)] 2)) t := fun t k => castTop (ef_mo m q1 q2) k
  have pre1 : ∀ t, Steps p.tables e below (s₁.setTop (mkF m 2 #[.val (.int q1), .val (.int q2)] [(.int q2), (.int q1)])) t → Steps p.tables e below (s₁.setTop (entryFrame m #[(.int q1), (.int q2)] 2)) t := fun t kt => pre0 t (by
    show Steps p.tables e below (s₁.setTop (mkF m 0 #[.val (.int q1), .val (.int q2)] [])) _
    refine XS.iloadN X0.here hx rfl (hb hby d8_0) rfl ?_
    show Steps p.tables e below (s₁.setTop (mkF m 1 #[.val (.int q1), .val (.int q2)] [(.int q1)])) _
    refine XS.iloadN X0.here hx rfl (hb hby d8_1) rfl ?_
    exact kt)
  by_cases hcx2 : q2 < q1
  · skip
    obtain ⟨fs, hr, hrun, hended, hW, hsame⟩ := X0.leave (v := (some (.int q2))) (fun h => by rw [Bd.returns] at h; cases h)
    refine ⟨_, _, pre1 _ ?_, hrun, hended, _, _, rfl, ?_, ⟨_, rfl⟩, hW, hsame.mono (by decide) (by decide)⟩
    · show Steps p.tables e below (s₁.setTop (mkF m 2 #[.val (.int q1), .val (.int q2)] [(.int q2), (.int q1)])) _
      refine XS.icmpYes X0.here hx rfl (pc0 := 2) (pc' := 9) rfl (hb hby d8_2) rfl (tlt hcx2).2.2.1 (by decide) (by decide) ?_
      show Steps p.tables e below (s₁.setTop (mkF m 9 #[.val (.int q1), .val (.int q2)] [])) _
      refine XS.iloadN X0.here hx rfl (hb hby d8_9) rfl ?_
      show Steps p.tables e below (s₁.setTop (mkF m 10 #[.val (.int q1), .val (.int q2)] [(.int q2)])) _
      exact retOut X0 hx Bd.returns rfl (Or.inl ⟨rfl, Or.inl rfl, _, rfl⟩) (hb hby d8_10) hr
    · show Qmo Z q1 q2 h0 n0 _ s₁.heap _
      rw [e0]
      exact ⟨N0, rfl, (Or.inl ⟨rfl, hcx2⟩)⟩
  · skip
    obtain ⟨fs, hr, hrun, hended, hW, hsame⟩ := X0.leave (v := (some (.int q1))) (fun h => by rw [Bd.returns] at h; cases h)
    refine ⟨_, _, pre1 _ ?_, hrun, hended, _, _, rfl, ?_, ⟨_, rfl⟩, hW, hsame.mono (by decide) (by decide)⟩
    · show Steps p.tables e below (s₁.setTop (mkF m 2 #[.val (.int q1), .val (.int q2)] [(.int q2), (.int q1)])) _
      refine XS.icmpNo X0.here hx rfl (hb hby d8_2) rfl (flt hcx2).2.2.1 ?_
      show Steps p.tables e below (s₁.setTop (mkF m 5 #[.val (.int q1), .val (.int q2)] [])) _
      refine XS.iloadN X0.here hx rfl (hb hby d8_5) rfl ?_
      show Steps p.tables e below (s₁.setTop (mkF m 6 #[.val (.int q1), .val (.int q2)] [(.int q1)])) _
      refine XS.goto X0.here hx rfl (pc0 := 6) (pc' := 10) rfl (hb hby d8_6) (by decide) (by decide) ?_
      show Steps p.tables e below (s₁.setTop (mkF m 10 #[.val (.int q1), .val (.int q2)] [(.int q1)])) _
      exact retOut X0 hx Bd.returns rfl (Or.inl ⟨rfl, Or.inl rfl, _, rfl⟩) (hb hby d8_10) hr
    · show Qmo Z q1 q2 h0 n0 _ s₁.heap _
      rw [e0]
      exact ⟨N0, rfl, (Or.inr ⟨rfl, hcx2⟩)⟩
theorem own_pn_1 : plainName "com/example/topics_into_queries/topicsintoqueries/CodePointsComparePinLaw" = true := by first | (simp [plainName, overriddenIn]; done) | decide +kernel
theorem d9_0 : decode method_3_code 0 = .ok (.iload_n 0, 1) := by decide +kernel
theorem d9_1 : decode method_3_code 1 = .ok (.ifCond .ge 5, 3) := by decide +kernel
theorem d9_4 : decode method_3_code 4 = .ok (.iconst (-1), 1) := by decide +kernel
theorem d9_5 : decode method_3_code 5 = .ok (.ireturn, 1) := by decide +kernel
theorem d9_6 : decode method_3_code 6 = .ok (.iload_n 0, 1) := by decide +kernel
theorem d9_7 : decode method_3_code 7 = .ok (.ifCond .le 5, 3) := by decide +kernel
theorem d9_10 : decode method_3_code 10 = .ok (.iconst 1, 1) := by decide +kernel
theorem d9_11 : decode method_3_code 11 = .ok (.ireturn, 1) := by decide +kernel
theorem d9_12 : decode method_3_code 12 = .ok (.iconst 0, 1) := by decide +kernel
theorem d9_13 : decode method_3_code 13 = .ok (.ireturn, 1) := by decide +kernel
theorem ef_sg (m : MethodId) (q1 : Int32) : entryFrame m #[(.int q1)] 1 = mkF m 0 #[.val (.int q1)] [] := by first | (simp [entryFrame, mkF, argsToLocals, Value.category]; done) | rfl
def Qsg (Z : State) (q1 : Int32) (h0 : Heap) (n0 : Nat) (v : Option Value) (h : Heap) (L : List Loc) : Prop := Fr n0 L ∧ h = h0 ∧ (v = some (.int (own_sg q1)))
set_option maxRecDepth 65536 in
set_option maxHeartbeats 40000000 in
theorem rmSg (l : Launch) (Z : State) (a0 : Array Value) (hw : ∀ d ∈ tables_1, d.before a0 Z = true) (ws : List Jvm.Cond) (q1 : Int32) (h0 : Heap) (n0 : Nat) (Z0 : n0 ≤ h0.size)  :
    MetFree l (⟨"com/example/topics_into_queries/topicsintoqueries/CodePointsComparePinLaw", "sgn", "(I)I"⟩ : MethodName) (head1 (Jvm.Cond.code (⟨"com/example/topics_into_queries/topicsintoqueries/CodePointsComparePinLaw", "sgn", "(I)I"⟩ : MethodName) method_3_code 1 (some .int) :: ws) ({ frames := 0, cells := 0, slots := 0, locals := 0 } : Room)) (fun a U => a = #[(.int q1)] ∧ Z.Warmed39 U.vm ∧ U.heap = h0) (fun _ _ _ _ _ => True) (fun _ U o U' => ∃ v L, o = .returned v ∧ Qsg Z q1 h0 n0 v U'.heap L ∧ FrameEnd U o U' L ({ frames := 0, cells := 0, slots := 0, locals := 0 } : Room).cells ({ frames := 0, cells := 0, slots := 0, locals := 0 } : Room).slots) := by
  refine MetFree.of_bodySF (plainFor_of_name own_pn_1) hisR ?_
  intro p e s m args below meth c s₁ Bd hml0 hP hK
  obtain ⟨rfl, hZ, hh⟩ := hP
  have hx := Bd.exec
  have hby := Bd.bytes
  have hml : c.maxLocals = 1 := hml0
  have hown : s.vm.findClass "com/example/topics_into_queries/topicsintoqueries/CodePointsComparePinLaw" = some m.cls := findClass_of_methodNamed Bd.named
  have hnm := (name_of_methodNamed Bd.named Bd.method).1
  have X0 : Stand p l e ({ frames := 0, cells := 0, slots := 0, locals := 0 } : Room) s m #[(.int q1)] below meth c s₁ [] 0 0 := Stand.of_body Bd
  have e0 : s₁.heap = h0 := by rw [← hh, Bd.state]; rfl
  have N0 := Fr.nil n0
  have pre0 : ∀ t, Steps p.tables e below (s₁.setTop (mkF m 0 #[.val (.int q1)] [])) t → Steps p.tables e below (s₁.setTop (entryFrame m #[(.int q1)] 1)) t := fun t k => castTop (ef_sg m q1) k
  have pre1 : ∀ t, Steps p.tables e below (s₁.setTop (mkF m 1 #[.val (.int q1)] [(.int q1)])) t → Steps p.tables e below (s₁.setTop (entryFrame m #[(.int q1)] 1)) t := fun t kt => pre0 t (by
    show Steps p.tables e below (s₁.setTop (mkF m 0 #[.val (.int q1)] [])) _
    refine XS.iloadN X0.here hx rfl (hb hby d9_0) rfl ?_
    exact kt)
  by_cases hcx2 : q1 < (0 : Int32)
  · skip
    obtain ⟨fs, hr, hrun, hended, hW, hsame⟩ := X0.leave (v := (some (.int (-1 : Int32)))) (fun h => by rw [Bd.returns] at h; cases h)
    refine ⟨_, _, pre1 _ ?_, hrun, hended, _, _, rfl, ?_, ⟨_, rfl⟩, hW, hsame.mono (by decide) (by decide)⟩
    · show Steps p.tables e below (s₁.setTop (mkF m 1 #[.val (.int q1)] [(.int q1)])) _
      refine XS.ifNo X0.here hx rfl (hb hby d9_1) rfl ((if0 _ _).trans (tlt hcx2).2.1) ?_
      show Steps p.tables e below (s₁.setTop (mkF m 4 #[.val (.int q1)] [])) _
      refine XS.iconst X0.here hx rfl (hb hby d9_4) ?_
      show Steps p.tables e below (s₁.setTop (mkF m 5 #[.val (.int q1)] [(.int (-1 : Int32))])) _
      exact retOut X0 hx Bd.returns rfl (Or.inl ⟨rfl, Or.inl rfl, _, rfl⟩) (hb hby d9_5) hr
    · show Qsg Z q1 h0 n0 _ s₁.heap _
      rw [e0]
      exact ⟨N0, rfl, (by unfold own_sg; rw [if_pos hcx2])⟩
  · skip
    have pre3 : ∀ t, Steps p.tables e below (s₁.setTop (mkF m 7 #[.val (.int q1)] [(.int q1)])) t → Steps p.tables e below (s₁.setTop (entryFrame m #[(.int q1)] 1)) t := fun t kt => pre1 t (by
      show Steps p.tables e below (s₁.setTop (mkF m 1 #[.val (.int q1)] [(.int q1)])) _
      refine XS.ifYes X0.here hx rfl (pc0 := 1) (pc' := 6) rfl (hb hby d9_1) rfl ((if0 _ _).trans (flt hcx2).2.1) (by decide) (by decide) ?_
      show Steps p.tables e below (s₁.setTop (mkF m 6 #[.val (.int q1)] [])) _
      refine XS.iloadN X0.here hx rfl (hb hby d9_6) rfl ?_
      exact kt)
    by_cases hcx4 : (0 : Int32) < q1
    · skip
      obtain ⟨fs, hr, hrun, hended, hW, hsame⟩ := X0.leave (v := (some (.int (1 : Int32)))) (fun h => by rw [Bd.returns] at h; cases h)
      refine ⟨_, _, pre3 _ ?_, hrun, hended, _, _, rfl, ?_, ⟨_, rfl⟩, hW, hsame.mono (by decide) (by decide)⟩
      · show Steps p.tables e below (s₁.setTop (mkF m 7 #[.val (.int q1)] [(.int q1)])) _
        refine XS.ifNo X0.here hx rfl (hb hby d9_7) rfl ((if0 _ _).trans (tlt hcx4).2.2.2) ?_
        show Steps p.tables e below (s₁.setTop (mkF m 10 #[.val (.int q1)] [])) _
        refine XS.iconst X0.here hx rfl (hb hby d9_10) ?_
        show Steps p.tables e below (s₁.setTop (mkF m 11 #[.val (.int q1)] [(.int (1 : Int32))])) _
        exact retOut X0 hx Bd.returns rfl (Or.inl ⟨rfl, Or.inl rfl, _, rfl⟩) (hb hby d9_11) hr
      · show Qsg Z q1 h0 n0 _ s₁.heap _
        rw [e0]
        exact ⟨N0, rfl, (by unfold own_sg; rw [if_neg hcx2, if_pos hcx4])⟩
    · skip
      obtain ⟨fs, hr, hrun, hended, hW, hsame⟩ := X0.leave (v := (some (.int (0 : Int32)))) (fun h => by rw [Bd.returns] at h; cases h)
      refine ⟨_, _, pre3 _ ?_, hrun, hended, _, _, rfl, ?_, ⟨_, rfl⟩, hW, hsame.mono (by decide) (by decide)⟩
      · show Steps p.tables e below (s₁.setTop (mkF m 7 #[.val (.int q1)] [(.int q1)])) _
        refine XS.ifYes X0.here hx rfl (pc0 := 7) (pc' := 12) rfl (hb hby d9_7) rfl ((if0 _ _).trans (flt hcx4).2.2.2) (by decide) (by decide) ?_
        show Steps p.tables e below (s₁.setTop (mkF m 12 #[.val (.int q1)] [])) _
        refine XS.iconst X0.here hx rfl (hb hby d9_12) ?_
        show Steps p.tables e below (s₁.setTop (mkF m 13 #[.val (.int q1)] [(.int (0 : Int32))])) _
        exact retOut X0 hx Bd.returns rfl (Or.inl ⟨rfl, Or.inl rfl, _, rfl⟩) (hb hby d9_13) hr
      · show Qsg Z q1 h0 n0 _ s₁.heap _
        rw [e0]
        exact ⟨N0, rfl, (by unfold own_sg; rw [if_neg hcx2, if_neg hcx4])⟩
theorem d19_0 : decode method_2_code 0 = .ok (.iload_n 0, 1) := by decide +kernel
theorem d19_1 : decode method_2_code 1 = .ok (.ldc 7, 2) := by decide +kernel
theorem d19_3 : decode method_2_code 3 = .ok (.if_icmp .ge 5, 3) := by decide +kernel
theorem d19_6 : decode method_2_code 6 = .ok (.iload_n 0, 1) := by decide +kernel
theorem d19_7 : decode method_2_code 7 = .ok (.ireturn, 1) := by decide +kernel
theorem d19_8 : decode method_2_code 8 = .ok (.iload_n 0, 1) := by decide +kernel
theorem d19_9 : decode method_2_code 9 = .ok (.ldc 8, 2) := by decide +kernel
theorem d19_11 : decode method_2_code 11 = .ok (.if_icmp .gt 9, 3) := by decide +kernel
theorem d19_20 : decode method_2_code 20 = .ok (.iload_n 0, 1) := by decide +kernel
theorem d19_21 : decode method_2_code 21 = .ok (.sipush 2048, 3) := by decide +kernel
theorem d19_24 : decode method_2_code 24 = .ok (.isub, 1) := by decide +kernel
theorem d19_25 : decode method_2_code 25 = .ok (.ireturn, 1) := by decide +kernel
theorem d19_14 : decode method_2_code 14 = .ok (.iload_n 0, 1) := by decide +kernel
theorem d19_15 : decode method_2_code 15 = .ok (.sipush 8192, 3) := by decide +kernel
theorem d19_18 : decode method_2_code 18 = .ok (.iadd, 1) := by decide +kernel
theorem d19_19 : decode method_2_code 19 = .ok (.ireturn, 1) := by decide +kernel
theorem ef_ky (m : MethodId) (q1 : Int32) : entryFrame m #[(.int q1)] 1 = mkF m 0 #[.val (.int q1)] [] := by first | (simp [entryFrame, mkF, argsToLocals, Value.category]; done) | rfl
def Qky (Z : State) (q1 : Int32) (h0 : Heap) (n0 : Nat) (v : Option Value) (h : Heap) (L : List Loc) : Prop := Fr n0 L ∧ h = h0 ∧ (v = some (.int (own_key q1)))
set_option maxRecDepth 65536 in
set_option maxHeartbeats 40000000 in
theorem rmKy (l : Launch) (Z : State) (a0 : Array Value) (hw : ∀ d ∈ tables_1, d.before a0 Z = true) (ws : List Jvm.Cond) (q1 : Int32) (h0 : Heap) (n0 : Nat) (Z0 : n0 ≤ h0.size)  :
    MetFree l (⟨"com/example/topics_into_queries/topicsintoqueries/CodePointsComparePinLaw", "key", "(I)I"⟩ : MethodName) (head1 (Jvm.Cond.code (⟨"com/example/topics_into_queries/topicsintoqueries/CodePointsComparePinLaw", "key", "(I)I"⟩ : MethodName) method_2_code 1 (some .int) :: ws) ({ frames := 0, cells := 0, slots := 0, locals := 0 } : Room)) (fun a U => a = #[(.int q1)] ∧ Z.Warmed39 U.vm ∧ U.heap = h0) (fun _ _ _ _ _ => True) (fun _ U o U' => ∃ v L, o = .returned v ∧ Qky Z q1 h0 n0 v U'.heap L ∧ FrameEnd U o U' L ({ frames := 0, cells := 0, slots := 0, locals := 0 } : Room).cells ({ frames := 0, cells := 0, slots := 0, locals := 0 } : Room).slots) := by
  refine MetFree.of_bodySF (plainFor_of_name own_pn_1) hisR ?_
  intro p e s m args below meth c s₁ Bd hml0 hP hK
  obtain ⟨rfl, hZ, hh⟩ := hP
  have hx := Bd.exec
  have hby := Bd.bytes
  have hml : c.maxLocals = 1 := hml0
  have hown : s.vm.findClass "com/example/topics_into_queries/topicsintoqueries/CodePointsComparePinLaw" = some m.cls := findClass_of_methodNamed Bd.named
  have hnm := (name_of_methodNamed Bd.named Bd.method).1
  have X0 : Stand p l e ({ frames := 0, cells := 0, slots := 0, locals := 0 } : Room) s m #[(.int q1)] below meth c s₁ [] 0 0 := Stand.of_body Bd
  have e0 : s₁.heap = h0 := by rw [← hh, Bd.state]; rfl
  have N0 := Fr.nil n0
  have pre0 : ∀ t, Steps p.tables e below (s₁.setTop (mkF m 0 #[.val (.int q1)] [])) t → Steps p.tables e below (s₁.setTop (entryFrame m #[(.int q1)] 1)) t := fun t k => castTop (ef_ky m q1) k
  have pre1 : ∀ t, Steps p.tables e below (s₁.setTop (mkF m 3 #[.val (.int q1)] [(.int (55296 : Int32)), (.int q1)])) t → Steps p.tables e below (s₁.setTop (entryFrame m #[(.int q1)] 1)) t := fun t kt => pre0 t (by
    show Steps p.tables e below (s₁.setTop (mkF m 0 #[.val (.int q1)] [])) _
    refine XS.iloadN X0.here hx rfl (hb hby d19_0) rfl ?_
    show Steps p.tables e below (s₁.setTop (mkF m 1 #[.val (.int q1)] [(.int q1)])) _
    refine X0.ldcInt hx hown (mvT hZ (own_k hw 86 rfl)) (g := (mkF m 1 #[.val (.int q1)] [(.int q1)])) rfl (hb hby d19_1) _ ?_
    exact kt)
  by_cases hcx2 : q1 < (55296 : Int32)
  · skip
    obtain ⟨fs, hr, hrun, hended, hW, hsame⟩ := X0.leave (v := (some (.int q1))) (fun h => by rw [Bd.returns] at h; cases h)
    refine ⟨_, _, pre1 _ ?_, hrun, hended, _, _, rfl, ?_, ⟨_, rfl⟩, hW, hsame.mono (by decide) (by decide)⟩
    · show Steps p.tables e below (s₁.setTop (mkF m 3 #[.val (.int q1)] [(.int (55296 : Int32)), (.int q1)])) _
      refine XS.icmpNo X0.here hx rfl (hb hby d19_3) rfl (tlt hcx2).2.1 ?_
      show Steps p.tables e below (s₁.setTop (mkF m 6 #[.val (.int q1)] [])) _
      refine XS.iloadN X0.here hx rfl (hb hby d19_6) rfl ?_
      show Steps p.tables e below (s₁.setTop (mkF m 7 #[.val (.int q1)] [(.int q1)])) _
      exact retOut X0 hx Bd.returns rfl (Or.inl ⟨rfl, Or.inl rfl, _, rfl⟩) (hb hby d19_7) hr
    · show Qky Z q1 h0 n0 _ s₁.heap _
      rw [e0]
      exact ⟨N0, rfl, (by unfold own_key; rw [if_pos hcx2])⟩
  · skip
    have pre3 : ∀ t, Steps p.tables e below (s₁.setTop (mkF m 11 #[.val (.int q1)] [(.int (57343 : Int32)), (.int q1)])) t → Steps p.tables e below (s₁.setTop (entryFrame m #[(.int q1)] 1)) t := fun t kt => pre1 t (by
      show Steps p.tables e below (s₁.setTop (mkF m 3 #[.val (.int q1)] [(.int (55296 : Int32)), (.int q1)])) _
      refine XS.icmpYes X0.here hx rfl (pc0 := 3) (pc' := 8) rfl (hb hby d19_3) rfl (flt hcx2).2.1 (by decide) (by decide) ?_
      show Steps p.tables e below (s₁.setTop (mkF m 8 #[.val (.int q1)] [])) _
      refine XS.iloadN X0.here hx rfl (hb hby d19_8) rfl ?_
      show Steps p.tables e below (s₁.setTop (mkF m 9 #[.val (.int q1)] [(.int q1)])) _
      refine X0.ldcInt hx hown (mvT hZ (own_k hw 127 rfl)) (g := (mkF m 9 #[.val (.int q1)] [(.int q1)])) rfl (hb hby d19_9) _ ?_
      exact kt)
    by_cases hcx4 : (57343 : Int32) < q1
    · skip
      obtain ⟨fs, hr, hrun, hended, hW, hsame⟩ := X0.leave (v := (some (.int (q1 - (2048 : Int32))))) (fun h => by rw [Bd.returns] at h; cases h)
      refine ⟨_, _, pre3 _ ?_, hrun, hended, _, _, rfl, ?_, ⟨_, rfl⟩, hW, hsame.mono (by decide) (by decide)⟩
      · show Steps p.tables e below (s₁.setTop (mkF m 11 #[.val (.int q1)] [(.int (57343 : Int32)), (.int q1)])) _
        refine XS.icmpYes X0.here hx rfl (pc0 := 11) (pc' := 20) rfl (hb hby d19_11) rfl (tlt hcx4).2.2.1 (by decide) (by decide) ?_
        show Steps p.tables e below (s₁.setTop (mkF m 20 #[.val (.int q1)] [])) _
        refine XS.iloadN X0.here hx rfl (hb hby d19_20) rfl ?_
        show Steps p.tables e below (s₁.setTop (mkF m 21 #[.val (.int q1)] [(.int q1)])) _
        refine XS.sipush X0.here hx rfl (hb hby d19_21) ?_
        show Steps p.tables e below (s₁.setTop (mkF m 24 #[.val (.int q1)] [(.int (2048 : Int32)), (.int q1)])) _
        refine XS.isub X0.here hx rfl (hb hby d19_24) rfl ?_
        show Steps p.tables e below (s₁.setTop (mkF m 25 #[.val (.int q1)] [(.int (q1 - (2048 : Int32)))])) _
        exact retOut X0 hx Bd.returns rfl (Or.inl ⟨rfl, Or.inl rfl, _, rfl⟩) (hb hby d19_25) hr
      · show Qky Z q1 h0 n0 _ s₁.heap _
        rw [e0]
        exact ⟨N0, rfl, (by unfold own_key; rw [if_neg hcx2, if_pos hcx4])⟩
    · skip
      obtain ⟨fs, hr, hrun, hended, hW, hsame⟩ := X0.leave (v := (some (.int (q1 + (8192 : Int32))))) (fun h => by rw [Bd.returns] at h; cases h)
      refine ⟨_, _, pre3 _ ?_, hrun, hended, _, _, rfl, ?_, ⟨_, rfl⟩, hW, hsame.mono (by decide) (by decide)⟩
      · show Steps p.tables e below (s₁.setTop (mkF m 11 #[.val (.int q1)] [(.int (57343 : Int32)), (.int q1)])) _
        refine XS.icmpNo X0.here hx rfl (hb hby d19_11) rfl (flt hcx4).2.2.1 ?_
        show Steps p.tables e below (s₁.setTop (mkF m 14 #[.val (.int q1)] [])) _
        refine XS.iloadN X0.here hx rfl (hb hby d19_14) rfl ?_
        show Steps p.tables e below (s₁.setTop (mkF m 15 #[.val (.int q1)] [(.int q1)])) _
        refine XS.sipush X0.here hx rfl (hb hby d19_15) ?_
        show Steps p.tables e below (s₁.setTop (mkF m 18 #[.val (.int q1)] [(.int (8192 : Int32)), (.int q1)])) _
        refine XS.iadd X0.here hx rfl (hb hby d19_18) rfl ?_
        show Steps p.tables e below (s₁.setTop (mkF m 19 #[.val (.int q1)] [(.int (q1 + (8192 : Int32)))])) _
        exact retOut X0 hx Bd.returns rfl (Or.inl ⟨rfl, Or.inl rfl, _, rfl⟩) (hb hby d19_19) hr
      · show Qky Z q1 h0 n0 _ s₁.heap _
        rw [e0]
        exact ⟨N0, rfl, (by unfold own_key; rw [if_neg hcx2, if_neg hcx4])⟩
theorem own_pn_2 : plainName "java/lang/Character" = true := by first | (simp [plainName, overriddenIn]; done) | decide +kernel
theorem d28_0 : decode jdk_89_method_16_code 0 = .ok (.iload_n 0, 1) := by decide +kernel
theorem d28_1 : decode jdk_89_method_16_code 1 = .ok (.ldc 75, 2) := by decide +kernel
theorem d28_3 : decode jdk_89_method_16_code 3 = .ok (.if_icmp .lt 13, 3) := by decide +kernel
theorem d28_16 : decode jdk_89_method_16_code 16 = .ok (.iconst 0, 1) := by decide +kernel
theorem d28_17 : decode jdk_89_method_16_code 17 = .ok (.ireturn, 1) := by decide +kernel
theorem d28_6 : decode jdk_89_method_16_code 6 = .ok (.iload_n 0, 1) := by decide +kernel
theorem d28_7 : decode jdk_89_method_16_code 7 = .ok (.ldc 77, 2) := by decide +kernel
theorem d28_9 : decode jdk_89_method_16_code 9 = .ok (.if_icmp .ge 7, 3) := by decide +kernel
theorem d28_12 : decode jdk_89_method_16_code 12 = .ok (.iconst 1, 1) := by decide +kernel
theorem d28_13 : decode jdk_89_method_16_code 13 = .ok (.goto 4, 3) := by decide +kernel
theorem ef_su (m : MethodId) (q1 : Int32) : entryFrame m #[(.int q1)] 1 = mkF m 0 #[.val (.int q1)] [] := by first | (simp [entryFrame, mkF, argsToLocals, Value.category]; done) | rfl
def Qsu (Z : State) (q1 : Int32) (h0 : Heap) (n0 : Nat) (v : Option Value) (h : Heap) (L : List Loc) : Prop := Fr n0 L ∧ h = h0 ∧ ((v = some (.int (0 : Int32)) ∧ q1 < (55296 : Int32)) ∨ (v = some (.int (1 : Int32)) ∧ ¬ (q1 < (55296 : Int32)) ∧ q1 < (57344 : Int32)) ∨ (v = some (.int (0 : Int32)) ∧ ¬ (q1 < (55296 : Int32)) ∧ ¬ (q1 < (57344 : Int32))))
set_option maxRecDepth 65536 in
set_option maxHeartbeats 40000000 in
theorem rmSu (l : Launch) (Z : State) (a0 : Array Value) (hw : ∀ d ∈ tables_1, d.before a0 Z = true) (ws : List Jvm.Cond) (q1 : Int32) (h0 : Heap) (n0 : Nat) (Z0 : n0 ≤ h0.size)  :
    MetFree l (⟨"java/lang/Character", "isSurrogate", "(C)Z"⟩ : MethodName) (head1 (Jvm.Cond.code (⟨"java/lang/Character", "isSurrogate", "(C)Z"⟩ : MethodName) jdk_89_method_16_code 1 (some .boolean) :: ws) ({ frames := 0, cells := 0, slots := 0, locals := 0 } : Room)) (fun a U => a = #[(.int q1)] ∧ Z.Warmed39 U.vm ∧ U.heap = h0) (fun _ _ _ _ _ => True) (fun _ U o U' => ∃ v L, o = .returned v ∧ Qsu Z q1 h0 n0 v U'.heap L ∧ FrameEnd U o U' L ({ frames := 0, cells := 0, slots := 0, locals := 0 } : Room).cells ({ frames := 0, cells := 0, slots := 0, locals := 0 } : Room).slots) := by
  refine MetFree.of_bodySF (plainFor_of_name own_pn_2) hisR ?_
  intro p e s m args below meth c s₁ Bd hml0 hP hK
  obtain ⟨rfl, hZ, hh⟩ := hP
  have hx := Bd.exec
  have hby := Bd.bytes
  have hml : c.maxLocals = 1 := hml0
  have hown : s.vm.findClass "java/lang/Character" = some m.cls := findClass_of_methodNamed Bd.named
  have hnm := (name_of_methodNamed Bd.named Bd.method).1
  have X0 : Stand p l e ({ frames := 0, cells := 0, slots := 0, locals := 0 } : Room) s m #[(.int q1)] below meth c s₁ [] 0 0 := Stand.of_body Bd
  have e0 : s₁.heap = h0 := by rw [← hh, Bd.state]; rfl
  have N0 := Fr.nil n0
  have pre0 : ∀ t, Steps p.tables e below (s₁.setTop (mkF m 0 #[.val (.int q1)] [])) t → Steps p.tables e below (s₁.setTop (entryFrame m #[(.int q1)] 1)) t := fun t k => castTop (ef_su m q1) k
  have pre1 : ∀ t, Steps p.tables e below (s₁.setTop (mkF m 3 #[.val (.int q1)] [(.int (55296 : Int32)), (.int q1)])) t → Steps p.tables e below (s₁.setTop (entryFrame m #[(.int q1)] 1)) t := fun t kt => pre0 t (by
    show Steps p.tables e below (s₁.setTop (mkF m 0 #[.val (.int q1)] [])) _
    refine XS.iloadN X0.here hx rfl (hb hby d28_0) rfl ?_
    show Steps p.tables e below (s₁.setTop (mkF m 1 #[.val (.int q1)] [(.int q1)])) _
    refine X0.ldcInt hx hown (mvT hZ (own_k hw 121 rfl)) (g := (mkF m 1 #[.val (.int q1)] [(.int q1)])) rfl (hb hby d28_1) _ ?_
    exact kt)
  by_cases hcx2 : q1 < (55296 : Int32)
  · skip
    obtain ⟨fs, hr, hrun, hended, hW, hsame⟩ := X0.leave (v := (some (.int (0 : Int32)))) (fun h => by rw [Bd.returns] at h; cases h)
    refine ⟨_, _, pre1 _ ?_, hrun, hended, _, _, rfl, ?_, ⟨_, rfl⟩, hW, hsame.mono (by decide) (by decide)⟩
    · show Steps p.tables e below (s₁.setTop (mkF m 3 #[.val (.int q1)] [(.int (55296 : Int32)), (.int q1)])) _
      refine XS.icmpYes X0.here hx rfl (pc0 := 3) (pc' := 16) rfl (hb hby d28_3) rfl (tlt hcx2).1 (by decide) (by decide) ?_
      show Steps p.tables e below (s₁.setTop (mkF m 16 #[.val (.int q1)] [])) _
      refine XS.iconst X0.here hx rfl (hb hby d28_16) ?_
      show Steps p.tables e below (s₁.setTop (mkF m 17 #[.val (.int q1)] [(.int (0 : Int32))])) _
      exact retN X0 hx (t := .boolean) Bd.returns (by simp) (hb hby d28_17) hr
    · show Qsu Z q1 h0 n0 _ s₁.heap _
      rw [e0]
      exact ⟨N0, rfl, (Or.inl ⟨rfl, hcx2⟩)⟩
  · skip
    have pre3 : ∀ t, Steps p.tables e below (s₁.setTop (mkF m 9 #[.val (.int q1)] [(.int (57344 : Int32)), (.int q1)])) t → Steps p.tables e below (s₁.setTop (entryFrame m #[(.int q1)] 1)) t := fun t kt => pre1 t (by
      show Steps p.tables e below (s₁.setTop (mkF m 3 #[.val (.int q1)] [(.int (55296 : Int32)), (.int q1)])) _
      refine XS.icmpNo X0.here hx rfl (hb hby d28_3) rfl (flt hcx2).1 ?_
      show Steps p.tables e below (s₁.setTop (mkF m 6 #[.val (.int q1)] [])) _
      refine XS.iloadN X0.here hx rfl (hb hby d28_6) rfl ?_
      show Steps p.tables e below (s₁.setTop (mkF m 7 #[.val (.int q1)] [(.int q1)])) _
      refine X0.ldcInt hx hown (mvT hZ (own_k hw 128 rfl)) (g := (mkF m 7 #[.val (.int q1)] [(.int q1)])) rfl (hb hby d28_7) _ ?_
      exact kt)
    by_cases hcx4 : q1 < (57344 : Int32)
    · skip
      obtain ⟨fs, hr, hrun, hended, hW, hsame⟩ := X0.leave (v := (some (.int (1 : Int32)))) (fun h => by rw [Bd.returns] at h; cases h)
      refine ⟨_, _, pre3 _ ?_, hrun, hended, _, _, rfl, ?_, ⟨_, rfl⟩, hW, hsame.mono (by decide) (by decide)⟩
      · show Steps p.tables e below (s₁.setTop (mkF m 9 #[.val (.int q1)] [(.int (57344 : Int32)), (.int q1)])) _
        refine XS.icmpNo X0.here hx rfl (hb hby d28_9) rfl (tlt hcx4).2.1 ?_
        show Steps p.tables e below (s₁.setTop (mkF m 12 #[.val (.int q1)] [])) _
        refine XS.iconst X0.here hx rfl (hb hby d28_12) ?_
        show Steps p.tables e below (s₁.setTop (mkF m 13 #[.val (.int q1)] [(.int (1 : Int32))])) _
        refine XS.goto X0.here hx rfl (pc0 := 13) (pc' := 17) rfl (hb hby d28_13) (by decide) (by decide) ?_
        show Steps p.tables e below (s₁.setTop (mkF m 17 #[.val (.int q1)] [(.int (1 : Int32))])) _
        exact retN X0 hx (t := .boolean) Bd.returns (by simp) (hb hby d28_17) hr
      · show Qsu Z q1 h0 n0 _ s₁.heap _
        rw [e0]
        exact ⟨N0, rfl, (Or.inr (Or.inl ⟨rfl, hcx2, hcx4⟩))⟩
    · skip
      obtain ⟨fs, hr, hrun, hended, hW, hsame⟩ := X0.leave (v := (some (.int (0 : Int32)))) (fun h => by rw [Bd.returns] at h; cases h)
      refine ⟨_, _, pre3 _ ?_, hrun, hended, _, _, rfl, ?_, ⟨_, rfl⟩, hW, hsame.mono (by decide) (by decide)⟩
      · show Steps p.tables e below (s₁.setTop (mkF m 9 #[.val (.int q1)] [(.int (57344 : Int32)), (.int q1)])) _
        refine XS.icmpYes X0.here hx rfl (pc0 := 9) (pc' := 16) rfl (hb hby d28_9) rfl (flt hcx4).2.1 (by decide) (by decide) ?_
        show Steps p.tables e below (s₁.setTop (mkF m 16 #[.val (.int q1)] [])) _
        refine XS.iconst X0.here hx rfl (hb hby d28_16) ?_
        show Steps p.tables e below (s₁.setTop (mkF m 17 #[.val (.int q1)] [(.int (0 : Int32))])) _
        exact retN X0 hx (t := .boolean) Bd.returns (by simp) (hb hby d28_17) hr
      · show Qsu Z q1 h0 n0 _ s₁.heap _
        rw [e0]
        exact ⟨N0, rfl, (Or.inr (Or.inr ⟨rfl, hcx2, hcx4⟩))⟩
theorem own_pn_3 : plainName "com/example/topics_into_queries/topicsintoqueries/CodePoints" = true := by first | (simp [plainName, overriddenIn]; done) | decide +kernel
theorem d27_0 : decode prog_1_method_3_code 0 = .ok (.iload_n 0, 1) := by decide +kernel
theorem d27_1 : decode prog_1_method_3_code 1 = .ok (.invokestatic 34, 3) := by decide +kernel
theorem own_pd_0 : parseMethodDescriptor "(C)Z" = some ⟨[.char], some .boolean⟩ := by decide +kernel
theorem d27_4 : decode prog_1_method_3_code 4 = .ok (.ifCond .eq 10, 3) := by decide +kernel
theorem d27_14 : decode prog_1_method_3_code 14 = .ok (.iload_n 0, 1) := by decide +kernel
theorem d27_15 : decode prog_1_method_3_code 15 = .ok (.ireturn, 1) := by decide +kernel
theorem d27_7 : decode prog_1_method_3_code 7 = .ok (.iload_n 0, 1) := by decide +kernel
theorem d27_8 : decode prog_1_method_3_code 8 = .ok (.ldc 40, 2) := by decide +kernel
theorem d27_10 : decode prog_1_method_3_code 10 = .ok (.iadd, 1) := by decide +kernel
theorem d27_11 : decode prog_1_method_3_code 11 = .ok (.goto 4, 3) := by decide +kernel
theorem ef_rk (m : MethodId) (q1 : Int32) : entryFrame m #[(.int q1)] 1 = mkF m 0 #[.val (.int q1)] [] := by first | (simp [entryFrame, mkF, argsToLocals, Value.category]; done) | rfl
def Qrk (Z : State) (q1 : Int32) (h0 : Heap) (n0 : Nat) (v : Option Value) (h : Heap) (L : List Loc) : Prop := Fr n0 L ∧ h = h0 ∧ (v = some (.int (own_rk q1)))
set_option maxRecDepth 65536 in
set_option maxHeartbeats 40000000 in
theorem rmRk (l : Launch) (Z : State) (a0 : Array Value) (hw : ∀ d ∈ tables_1, d.before a0 Z = true) (ws : List Jvm.Cond) (q1 : Int32) (h0 : Heap) (n0 : Nat) (Z0 : n0 ≤ h0.size)  :
    MetFree l (⟨"com/example/topics_into_queries/topicsintoqueries/CodePoints", "rank", "(C)I"⟩ : MethodName) (head1 (Jvm.Cond.code (⟨"com/example/topics_into_queries/topicsintoqueries/CodePoints", "rank", "(C)I"⟩ : MethodName) prog_1_method_3_code 1 (some .int) :: ws) ({ frames := 1, cells := 0, slots := 0, locals := 12 } : Room)) (fun a U => a = #[(.int q1)] ∧ Z.Warmed39 U.vm ∧ U.heap = h0) (fun _ _ _ _ _ => True) (fun _ U o U' => ∃ v L, o = .returned v ∧ Qrk Z q1 h0 n0 v U'.heap L ∧ FrameEnd U o U' L ({ frames := 1, cells := 0, slots := 0, locals := 12 } : Room).cells ({ frames := 1, cells := 0, slots := 0, locals := 12 } : Room).slots) := by
  refine MetFree.of_bodySF (plainFor_of_name own_pn_3) hisR ?_
  intro p e s m args below meth c s₁ Bd hml0 hP hK
  obtain ⟨rfl, hZ, hh⟩ := hP
  have hx := Bd.exec
  have hby := Bd.bytes
  have hml : c.maxLocals = 1 := hml0
  have hown : s.vm.findClass "com/example/topics_into_queries/topicsintoqueries/CodePoints" = some m.cls := findClass_of_methodNamed Bd.named
  have hnm := (name_of_methodNamed Bd.named Bd.method).1
  have X0 : Stand p l e ({ frames := 1, cells := 0, slots := 0, locals := 12 } : Room) s m #[(.int q1)] below meth c s₁ [] 0 0 := Stand.of_body Bd
  have e0 : s₁.heap = h0 := by rw [← hh, Bd.state]; rfl
  have N0 := Fr.nil n0
  have pre0 : ∀ t, Steps p.tables e below (s₁.setTop (mkF m 0 #[.val (.int q1)] [])) t → Steps p.tables e below (s₁.setTop (entryFrame m #[(.int q1)] 1)) t := fun t k => castTop (ef_rk m q1) k
  obtain ⟨_, _, ⟨T1, L1, k1, n1⟩, -, X1, ⟨Lc1, hQ1, l1, y1, z1⟩, st1⟩ := Jvm.LawKit.callS X0 hx (y := (⟨"java/lang/Character", "isSurrogate", "(C)Z"⟩ : MethodName)) hown (mvT hZ (own_k hw 117 rfl)) (mvT hZ (own_k hw 118 rfl)) (mvT hZ (own_k hw 119 rfl)) (mvT hZ (own_k hw 120 rfl)) (by decide) (backOf (W := 0) (rmSu l Z a0 hw [] q1 h0 n0 Z0 ) hZ (own_k hw 120 rfl) (own_k hw 119 rfl) (by decide) (by decide)) (g := (mkF m 1 #[.val (.int q1)] [(.int q1)])) rfl (by rw [hml]; rfl) (argsL := [(.int q1)]) (rest := []) (lenOf own_pd_0 rfl) rfl (by show 2 * 0 + _ ≤ _; exact Nat.le_of_eq rfl) (hb hby d27_1) (fun _ _ => ⟨rfl, e0, (by decide : 0 + 0 ≤ _), (by decide : 0 + 0 ≤ _)⟩)
  dsimp only [Pt.U, Pt.locs, Pt.cells, Pt.slots] at X1 l1 y1 z1 st1 hQ1
  subst l1
  subst y1 z1
  obtain ⟨Nq1, eh1, hv1⟩ := hQ1
  have N1 := Fr.app N0 Nq1
  have pre2 : ∀ t, Steps p.tables e below (s₁.setTop (mkF m 1 #[.val (.int q1)] [(.int q1)])) t → Steps p.tables e below (s₁.setTop (entryFrame m #[(.int q1)] 1)) t := fun t kt => pre0 t (by
    show Steps p.tables e below (s₁.setTop (mkF m 0 #[.val (.int q1)] [])) _
    refine XS.iloadN X0.here hx rfl (hb hby d27_0) rfl ?_
    exact kt)
  rcases hv1 with ⟨hv1, hd1_0⟩ | ⟨hv1, hd1_0, hd1_1⟩ | ⟨hv1, hd1_0, hd1_1⟩
  · subst hv1
    obtain ⟨fs, hr, hrun, hended, hW, hsame⟩ := X1.leave (v := (some (.int q1))) (fun h => by rw [Bd.returns] at h; cases h)
    refine ⟨_, _, pre2 _ ?_, hrun, hended, _, _, rfl, ?_, ⟨_, rfl⟩, hW, hsame.mono (by decide) (by decide)⟩
    · show Steps p.tables e below (s₁.setTop (mkF m 1 #[.val (.int q1)] [(.int q1)])) _
      refine st1 _ ?_
      show Steps p.tables e below (T1.setTop (mkF m 4 #[.val (.int q1)] [(.int (0 : Int32))])) _
      refine XS.ifYes X1.here hx rfl (pc0 := 4) (pc' := 14) rfl (hb hby d27_4) rfl (by decide) (by decide) (by decide) ?_
      show Steps p.tables e below (T1.setTop (mkF m 14 #[.val (.int q1)] [])) _
      refine XS.iloadN X1.here hx rfl (hb hby d27_14) rfl ?_
      show Steps p.tables e below (T1.setTop (mkF m 15 #[.val (.int q1)] [(.int q1)])) _
      exact retOut X1 hx Bd.returns rfl (Or.inl ⟨rfl, Or.inl rfl, _, rfl⟩) (hb hby d27_15) hr
    · show Qrk Z q1 h0 n0 _ T1.heap _
      rw [eh1]
      exact ⟨N1, rfl, (by unfold own_rk; rw [if_neg (fun q => q.1 hd1_0)])⟩
  · subst hv1
    obtain ⟨fs, hr, hrun, hended, hW, hsame⟩ := X1.leave (v := (some (.int (q1 + (65536 : Int32))))) (fun h => by rw [Bd.returns] at h; cases h)
    refine ⟨_, _, pre2 _ ?_, hrun, hended, _, _, rfl, ?_, ⟨_, rfl⟩, hW, hsame.mono (by decide) (by decide)⟩
    · show Steps p.tables e below (s₁.setTop (mkF m 1 #[.val (.int q1)] [(.int q1)])) _
      refine st1 _ ?_
      show Steps p.tables e below (T1.setTop (mkF m 4 #[.val (.int q1)] [(.int (1 : Int32))])) _
      refine XS.ifNo X1.here hx rfl (hb hby d27_4) rfl (by decide) ?_
      show Steps p.tables e below (T1.setTop (mkF m 7 #[.val (.int q1)] [])) _
      refine XS.iloadN X1.here hx rfl (hb hby d27_7) rfl ?_
      show Steps p.tables e below (T1.setTop (mkF m 8 #[.val (.int q1)] [(.int q1)])) _
      refine X1.ldcInt hx hown (mvT hZ (own_k hw 129 rfl)) (g := (mkF m 8 #[.val (.int q1)] [(.int q1)])) rfl (hb hby d27_8) _ ?_
      show Steps p.tables e below (T1.setTop (mkF m 10 #[.val (.int q1)] [(.int (65536 : Int32)), (.int q1)])) _
      refine XS.iadd X1.here hx rfl (hb hby d27_10) rfl ?_
      show Steps p.tables e below (T1.setTop (mkF m 11 #[.val (.int q1)] [(.int (q1 + (65536 : Int32)))])) _
      refine XS.goto X1.here hx rfl (pc0 := 11) (pc' := 15) rfl (hb hby d27_11) (by decide) (by decide) ?_
      show Steps p.tables e below (T1.setTop (mkF m 15 #[.val (.int q1)] [(.int (q1 + (65536 : Int32)))])) _
      exact retOut X1 hx Bd.returns rfl (Or.inl ⟨rfl, Or.inl rfl, _, rfl⟩) (hb hby d27_15) hr
    · show Qrk Z q1 h0 n0 _ T1.heap _
      rw [eh1]
      exact ⟨N1, rfl, (by unfold own_rk; rw [if_pos ⟨hd1_0, hd1_1⟩])⟩
  · subst hv1
    obtain ⟨fs, hr, hrun, hended, hW, hsame⟩ := X1.leave (v := (some (.int q1))) (fun h => by rw [Bd.returns] at h; cases h)
    refine ⟨_, _, pre2 _ ?_, hrun, hended, _, _, rfl, ?_, ⟨_, rfl⟩, hW, hsame.mono (by decide) (by decide)⟩
    · show Steps p.tables e below (s₁.setTop (mkF m 1 #[.val (.int q1)] [(.int q1)])) _
      refine st1 _ ?_
      show Steps p.tables e below (T1.setTop (mkF m 4 #[.val (.int q1)] [(.int (0 : Int32))])) _
      refine XS.ifYes X1.here hx rfl (pc0 := 4) (pc' := 14) rfl (hb hby d27_4) rfl (by decide) (by decide) (by decide) ?_
      show Steps p.tables e below (T1.setTop (mkF m 14 #[.val (.int q1)] [])) _
      refine XS.iloadN X1.here hx rfl (hb hby d27_14) rfl ?_
      show Steps p.tables e below (T1.setTop (mkF m 15 #[.val (.int q1)] [(.int q1)])) _
      exact retOut X1 hx Bd.returns rfl (Or.inl ⟨rfl, Or.inl rfl, _, rfl⟩) (hb hby d27_15) hr
    · show Qrk Z q1 h0 n0 _ T1.heap _
      rw [eh1]
      exact ⟨N1, rfl, (by unfold own_rk; rw [if_neg (fun q => hd1_1 q.2)])⟩
theorem own_pn_4 : plainName "jdk/internal/util/Preconditions" = true := by first | (simp [plainName, overriddenIn]; done) | decide +kernel
theorem d26_0 : decode jdk_41_method_11_code 0 = .ok (.iload_n 0, 1) := by decide +kernel
theorem d26_1 : decode jdk_41_method_11_code 1 = .ok (.ifCond .lt 8, 3) := by decide +kernel
theorem d26_4 : decode jdk_41_method_11_code 4 = .ok (.iload_n 0, 1) := by decide +kernel
theorem d26_5 : decode jdk_41_method_11_code 5 = .ok (.iload_n 1, 1) := by decide +kernel
theorem d26_6 : decode jdk_41_method_11_code 6 = .ok (.if_icmp .lt 10, 3) := by decide +kernel
theorem d26_16 : decode jdk_41_method_11_code 16 = .ok (.iload_n 0, 1) := by decide +kernel
theorem d26_17 : decode jdk_41_method_11_code 17 = .ok (.ireturn, 1) := by decide +kernel
theorem ef_pc (m : MethodId) (q1 : Int32) (q2 : Int32) (fv : Value) (hr_fv : fv.isRef = true) : entryFrame m #[(.int q1), (.int q2), fv] 3 = mkF m 0 #[.val (.int q1), .val (.int q2), .val fv] [] := by cases fv <;> first | (simp [entryFrame, mkF, argsToLocals, Value.category]; done) | rfl | (simp [Value.isRef] at hr_fv; done)
def Qpc (Z : State) (q1 : Int32) (q2 : Int32) (fv : Value) (h0 : Heap) (n0 : Nat) (v : Option Value) (h : Heap) (L : List Loc) : Prop := Fr n0 L ∧ h = h0 ∧ (v = some (.int q1))
set_option maxRecDepth 65536 in
set_option maxHeartbeats 40000000 in
theorem rmPc (l : Launch) (Z : State) (a0 : Array Value) (hw : ∀ d ∈ tables_1, d.before a0 Z = true) (ws : List Jvm.Cond) (q1 : Int32) (q2 : Int32) (fv : Value) (h0 : Heap) (n0 : Nat) (Z0 : n0 ≤ h0.size) (hfr : fv.isRef = true) (hi0 : ¬ (q1 < (0 : Int32))) (hi1 : q1 < q2) :
    MetFree l (⟨"jdk/internal/util/Preconditions", "checkIndex", "(IILjava/util/function/BiFunction;)I"⟩ : MethodName) (head1 (Jvm.Cond.code (⟨"jdk/internal/util/Preconditions", "checkIndex", "(IILjava/util/function/BiFunction;)I"⟩ : MethodName) jdk_41_method_11_code 3 (some .int) :: ws) ({ frames := 0, cells := 0, slots := 0, locals := 0 } : Room)) (fun a U => a = #[(.int q1), (.int q2), fv] ∧ Z.Warmed39 U.vm ∧ U.heap = h0) (fun _ _ _ _ _ => True) (fun _ U o U' => ∃ v L, o = .returned v ∧ Qpc Z q1 q2 fv h0 n0 v U'.heap L ∧ FrameEnd U o U' L ({ frames := 0, cells := 0, slots := 0, locals := 0 } : Room).cells ({ frames := 0, cells := 0, slots := 0, locals := 0 } : Room).slots) := by
  refine MetFree.of_bodySF (plainFor_of_name own_pn_4) hisR ?_
  intro p e s m args below meth c s₁ Bd hml0 hP hK
  obtain ⟨rfl, hZ, hh⟩ := hP
  have hx := Bd.exec
  have hby := Bd.bytes
  have hml : c.maxLocals = 3 := hml0
  have hown : s.vm.findClass "jdk/internal/util/Preconditions" = some m.cls := findClass_of_methodNamed Bd.named
  have hnm := (name_of_methodNamed Bd.named Bd.method).1
  have X0 : Stand p l e ({ frames := 0, cells := 0, slots := 0, locals := 0 } : Room) s m #[(.int q1), (.int q2), fv] below meth c s₁ [] 0 0 := Stand.of_body Bd
  have e0 : s₁.heap = h0 := by rw [← hh, Bd.state]; rfl
  have N0 := Fr.nil n0
  have pre0 : ∀ t, Steps p.tables e below (s₁.setTop (mkF m 0 #[.val (.int q1), .val (.int q2), .val fv] [])) t → Steps p.tables e below (s₁.setTop (entryFrame m #[(.int q1), (.int q2), fv] 3)) t := fun t k => castTop (ef_pc m q1 q2 fv hfr) k
  obtain ⟨fs, hr, hrun, hended, hW, hsame⟩ := X0.leave (v := (some (.int q1))) (fun h => by rw [Bd.returns] at h; cases h)
  refine ⟨_, _, pre0 _ ?_, hrun, hended, _, _, rfl, ?_, ⟨_, rfl⟩, hW, hsame.mono (by decide) (by decide)⟩
  · show Steps p.tables e below (s₁.setTop (mkF m 0 #[.val (.int q1), .val (.int q2), .val fv] [])) _
    refine XS.iloadN X0.here hx rfl (hb hby d26_0) rfl ?_
    show Steps p.tables e below (s₁.setTop (mkF m 1 #[.val (.int q1), .val (.int q2), .val fv] [(.int q1)])) _
    refine XS.ifNo X0.here hx rfl (hb hby d26_1) rfl ((if0 _ _).trans (flt hi0).1) ?_
    show Steps p.tables e below (s₁.setTop (mkF m 4 #[.val (.int q1), .val (.int q2), .val fv] [])) _
    refine XS.iloadN X0.here hx rfl (hb hby d26_4) rfl ?_
    show Steps p.tables e below (s₁.setTop (mkF m 5 #[.val (.int q1), .val (.int q2), .val fv] [(.int q1)])) _
    refine XS.iloadN X0.here hx rfl (hb hby d26_5) rfl ?_
    show Steps p.tables e below (s₁.setTop (mkF m 6 #[.val (.int q1), .val (.int q2), .val fv] [(.int q2), (.int q1)])) _
    refine XS.icmpYes X0.here hx rfl (pc0 := 6) (pc' := 16) rfl (hb hby d26_6) rfl (tlt hi1).1 (by decide) (by decide) ?_
    show Steps p.tables e below (s₁.setTop (mkF m 16 #[.val (.int q1), .val (.int q2), .val fv] [])) _
    refine XS.iloadN X0.here hx rfl (hb hby d26_16) rfl ?_
    show Steps p.tables e below (s₁.setTop (mkF m 17 #[.val (.int q1), .val (.int q2), .val fv] [(.int q1)])) _
    exact retOut X0 hx Bd.returns rfl (Or.inl ⟨rfl, Or.inl rfl, _, rfl⟩) (hb hby d26_17) hr
  · show Qpc Z q1 q2 fv h0 n0 _ s₁.heap _
    rw [e0]
    exact ⟨N0, rfl, rfl⟩
theorem own_pn_5 : plainName "java/lang/String" = true := by first | (simp [plainName, overriddenIn]; done) | decide +kernel
theorem d25_0 : decode jdk_42_method_155_code 0 = .ok (.iload_n 0, 1) := by decide +kernel
theorem d25_1 : decode jdk_42_method_155_code 1 = .ok (.iload_n 1, 1) := by decide +kernel
theorem d25_2 : decode jdk_42_method_155_code 2 = .ok (.getstatic 1053, 3) := by decide +kernel
theorem d25_5 : decode jdk_42_method_155_code 5 = .ok (.invokestatic 1059, 3) := by decide +kernel
theorem own_pd_1 : parseMethodDescriptor "(IILjava/util/function/BiFunction;)I" = some ⟨[.int, .int, (.object "java/util/function/BiFunction")], some .int⟩ := by decide +kernel
theorem d25_8 : decode jdk_42_method_155_code 8 = .ok (.pop, 1) := by decide +kernel
theorem d25_9 : decode jdk_42_method_155_code 9 = .ok (.return_, 1) := by decide +kernel
theorem ef_sc (m : MethodId) (q1 : Int32) (q2 : Int32) : entryFrame m #[(.int q1), (.int q2)] 2 = mkF m 0 #[.val (.int q1), .val (.int q2)] [] := by first | (simp [entryFrame, mkF, argsToLocals, Value.category]; done) | rfl
def Qsc (Z : State) (q1 : Int32) (q2 : Int32) (fv : Value) (h0 : Heap) (n0 : Nat) (v : Option Value) (h : Heap) (L : List Loc) : Prop := Fr n0 L ∧ h = h0 ∧ (v = none)
set_option maxRecDepth 65536 in
set_option maxHeartbeats 40000000 in
theorem rmSc (l : Launch) (Z : State) (a0 : Array Value) (hw : ∀ d ∈ tables_1, d.before a0 Z = true) (ws : List Jvm.Cond) (q1 : Int32) (q2 : Int32) (fv : Value) (h0 : Heap) (n0 : Nat) (Z0 : n0 ≤ h0.size) (hSf : Sta Z Z.heap "jdk/internal/util/Preconditions" "SIOOBE_FORMATTER" "Ljava/util/function/BiFunction;" fv) (hfr : fv.isRef = true) (hO : Old Z n0 h0) (hi0 : ¬ (q1 < (0 : Int32))) (hi1 : q1 < q2) :
    MetFree l (⟨"java/lang/String", "checkIndex", "(II)V"⟩ : MethodName) (head1 (Jvm.Cond.code (⟨"java/lang/String", "checkIndex", "(II)V"⟩ : MethodName) jdk_42_method_155_code 2 none :: ws) ({ frames := 1, cells := 0, slots := 0, locals := 14 } : Room)) (fun a U => a = #[(.int q1), (.int q2)] ∧ Z.Warmed39 U.vm ∧ U.heap = h0) (fun _ _ _ _ _ => True) (fun _ U o U' => ∃ v L, o = .returned v ∧ Qsc Z q1 q2 fv h0 n0 v U'.heap L ∧ FrameEnd U o U' L ({ frames := 1, cells := 0, slots := 0, locals := 14 } : Room).cells ({ frames := 1, cells := 0, slots := 0, locals := 14 } : Room).slots) := by
  refine MetFree.of_bodySF (plainFor_of_name own_pn_5) hisR ?_
  intro p e s m args below meth c s₁ Bd hml0 hP hK
  obtain ⟨rfl, hZ, hh⟩ := hP
  have hx := Bd.exec
  have hby := Bd.bytes
  have hml : c.maxLocals = 2 := hml0
  have hown : s.vm.findClass "java/lang/String" = some m.cls := findClass_of_methodNamed Bd.named
  have hnm := (name_of_methodNamed Bd.named Bd.method).1
  have X0 : Stand p l e ({ frames := 1, cells := 0, slots := 0, locals := 14 } : Room) s m #[(.int q1), (.int q2)] below meth c s₁ [] 0 0 := Stand.of_body Bd
  have e0 : s₁.heap = h0 := by rw [← hh, Bd.state]; rfl
  have N0 := Fr.nil n0
  have pre0 : ∀ t, Steps p.tables e below (s₁.setTop (mkF m 0 #[.val (.int q1), .val (.int q2)] [])) t → Steps p.tables e below (s₁.setTop (entryFrame m #[(.int q1), (.int q2)] 2)) t := fun t k => castTop (ef_sc m q1 q2) k
  obtain ⟨T1, X1, e1, st1⟩ := getS2 X0 hx hZ hown (host := "") (Or.inl (own_k hw 109 rfl)) Via.refl e0 (hSf.ext hO.2) (g := (mkF m 2 #[.val (.int q1), .val (.int q2)] [(.int q2), (.int q1)])) rfl (hb hby d25_2)
  obtain ⟨_, _, ⟨T2, L2, k2, n2⟩, -, X2, ⟨Lc2, hQ2, l2, y2, z2⟩, st2⟩ := Jvm.LawKit.callS X1 hx (y := (⟨"jdk/internal/util/Preconditions", "checkIndex", "(IILjava/util/function/BiFunction;)I"⟩ : MethodName)) hown (mvT hZ (own_k hw 111 rfl)) (mvT hZ (own_k hw 112 rfl)) (mvT hZ (own_k hw 110 rfl)) (mvT hZ (own_k hw 113 rfl)) (by decide) (backOf (W := 0) (rmPc l Z a0 hw [] q1 q2 fv h0 n0 Z0 (hfr) (hi0) (hi1)) hZ (own_k hw 113 rfl) (own_k hw 110 rfl) (by decide) (by decide)) (g := (mkF m 5 #[.val (.int q1), .val (.int q2)] [fv, (.int q2), (.int q1)])) rfl (by rw [hml]; rfl) (argsL := [(.int q1), (.int q2), fv]) (rest := []) (lenOf own_pd_1 rfl) rfl (by show 2 * 0 + _ ≤ _; exact Nat.le_of_eq rfl) (hb hby d25_5) (fun _ _ => ⟨rfl, e1, (by decide : 0 + 0 ≤ _), (by decide : 0 + 0 ≤ _)⟩)
  dsimp only [Pt.U, Pt.locs, Pt.cells, Pt.slots] at X2 l2 y2 z2 st2 hQ2
  subst l2
  subst y2 z2
  obtain ⟨Nq2, eh2, hv2⟩ := hQ2
  have N2 := Fr.app N0 Nq2
  subst hv2
  obtain ⟨fs, hr, hrun, hended, hW, hsame⟩ := X2.leave (v := none) (fun _ => rfl)
  refine ⟨_, _, pre0 _ ?_, hrun, hended, _, _, rfl, ?_, ⟨_, rfl⟩, hW, hsame.mono (by decide) (by decide)⟩
  · show Steps p.tables e below (s₁.setTop (mkF m 0 #[.val (.int q1), .val (.int q2)] [])) _
    refine XS.iloadN X0.here hx rfl (hb hby d25_0) rfl ?_
    show Steps p.tables e below (s₁.setTop (mkF m 1 #[.val (.int q1), .val (.int q2)] [(.int q1)])) _
    refine XS.iloadN X0.here hx rfl (hb hby d25_1) rfl ?_
    show Steps p.tables e below (s₁.setTop (mkF m 2 #[.val (.int q1), .val (.int q2)] [(.int q2), (.int q1)])) _
    refine st1 _ ?_
    show Steps p.tables e below (T1.setTop (mkF m 5 #[.val (.int q1), .val (.int q2)] [fv, (.int q2), (.int q1)])) _
    refine st2 _ ?_
    show Steps p.tables e below (T2.setTop (mkF m 8 #[.val (.int q1), .val (.int q2)] [(.int q1)])) _
    refine XS.pop X2.here hx rfl (hb hby d25_8) rfl rfl ?_
    show Steps p.tables e below (T2.setTop (mkF m 9 #[.val (.int q1), .val (.int q2)] [])) _
    exact X2.returnOut hx Bd.returns (hb hby d25_9) hr
  · show Qsc Z q1 q2 fv h0 n0 _ T2.heap _
    rw [eh2]
    exact ⟨N2, rfl, rfl⟩
theorem own_pn_6 : plainName "java/lang/StringUTF16" = true := by first | (simp [plainName, overriddenIn]; done) | decide +kernel
theorem d24_0 : decode jdk_52_method_6_code 0 = .ok (.aload_n 0, 1) := by decide +kernel
theorem d24_1 : decode jdk_52_method_6_code 1 = .ok (.arraylength, 1) := by decide +kernel
theorem d24_2 : decode jdk_52_method_6_code 2 = .ok (.iconst 1, 1) := by decide +kernel
theorem d24_3 : decode jdk_52_method_6_code 3 = .ok (.ishr, 1) := by decide +kernel
theorem d24_4 : decode jdk_52_method_6_code 4 = .ok (.ireturn, 1) := by decide +kernel
theorem ef_ul2 (m : MethodId) (a1 : Addr) : entryFrame m #[(.ref a1)] 1 = mkF m 0 #[.val (.ref a1)] [] := by first | (simp [entryFrame, mkF, argsToLocals, Value.category]; done) | rfl
def Qul2 (Z : State) (a1 : Addr) (kk : ClassId) (b0 : Int32) (b1 : Int32) (h0 : Heap) (n0 : Nat) (v : Option Value) (h : Heap) (L : List Loc) : Prop := Fr n0 L ∧ h = h0 ∧ (v = some (.int (1 : Int32)))
set_option maxRecDepth 65536 in
set_option maxHeartbeats 40000000 in
theorem rmUl2 (l : Launch) (Z : State) (a0 : Array Value) (hw : ∀ d ∈ tables_1, d.before a0 Z = true) (ws : List Jvm.Cond) (a1 : Addr) (kk : ClassId) (b0 : Int32) (b1 : Int32) (h0 : Heap) (n0 : Nat) (Z0 : n0 ≤ h0.size) (hV : Arv Z h0 a1 kk .byte (2 : Int32) [(.int b0), (.int b1)] (.int (0 : Int32))) :
    MetFree l (⟨"java/lang/StringUTF16", "length", "([B)I"⟩ : MethodName) (head1 (Jvm.Cond.code (⟨"java/lang/StringUTF16", "length", "([B)I"⟩ : MethodName) jdk_52_method_6_code 1 (some .int) :: ws) ({ frames := 0, cells := 0, slots := 0, locals := 0 } : Room)) (fun a U => a = #[(.ref a1)] ∧ Z.Warmed39 U.vm ∧ U.heap = h0) (fun _ _ _ _ _ => True) (fun _ U o U' => ∃ v L, o = .returned v ∧ Qul2 Z a1 kk b0 b1 h0 n0 v U'.heap L ∧ FrameEnd U o U' L ({ frames := 0, cells := 0, slots := 0, locals := 0 } : Room).cells ({ frames := 0, cells := 0, slots := 0, locals := 0 } : Room).slots) := by
  refine MetFree.of_bodySF (plainFor_of_name own_pn_6) hisR ?_
  intro p e s m args below meth c s₁ Bd hml0 hP hK
  obtain ⟨rfl, hZ, hh⟩ := hP
  have hx := Bd.exec
  have hby := Bd.bytes
  have hml : c.maxLocals = 1 := hml0
  have hown : s.vm.findClass "java/lang/StringUTF16" = some m.cls := findClass_of_methodNamed Bd.named
  have hnm := (name_of_methodNamed Bd.named Bd.method).1
  have X0 : Stand p l e ({ frames := 0, cells := 0, slots := 0, locals := 0 } : Room) s m #[(.ref a1)] below meth c s₁ [] 0 0 := Stand.of_body Bd
  have e0 : s₁.heap = h0 := by rw [← hh, Bd.state]; rfl
  have N0 := Fr.nil n0
  have pre0 : ∀ t, Steps p.tables e below (s₁.setTop (mkF m 0 #[.val (.ref a1)] [])) t → Steps p.tables e below (s₁.setTop (entryFrame m #[(.ref a1)] 1)) t := fun t k => castTop (ef_ul2 m a1) k
  obtain ⟨cl1, Ar1, -, S1, M1, -, -⟩ := id hV
  obtain ⟨fs, hr, hrun, hended, hW, hsame⟩ := X0.leave (v := (some (.int (1 : Int32)))) (fun h => by rw [Bd.returns] at h; cases h)
  refine ⟨_, _, pre0 _ ?_, hrun, hended, _, _, rfl, ?_, ⟨_, rfl⟩, hW, hsame.mono (by decide) (by decide)⟩
  · show Steps p.tables e below (s₁.setTop (mkF m 0 #[.val (.ref a1)] [])) _
    refine XS.aloadN X0.here hx rfl (hb hby d24_0) rfl rfl ?_
    show Steps p.tables e below (s₁.setTop (mkF m 1 #[.val (.ref a1)] [(.ref a1)])) _
    refine X0.arraylength hx (by rw [e0]; exact Ar1.1) (State.isArrayOf_alike hZ.alike Ar1.2.1) (g := (mkF m 1 #[.val (.ref a1)] [(.ref a1)])) rfl rfl (hb hby d24_1) _ ?_
    rw [len_of S1 M1]
    show Steps p.tables e below (s₁.setTop (mkF m 2 #[.val (.ref a1)] [(.int (2 : Int32))])) _
    refine XS.iconst X0.here hx rfl (hb hby d24_2) ?_
    show Steps p.tables e below (s₁.setTop (mkF m 3 #[.val (.ref a1)] [(.int (1 : Int32)), (.int (2 : Int32))])) _
    refine XS.ishr X0.here hx rfl (hb hby d24_3) rfl ?_
    show Steps p.tables e below (s₁.setTop (mkF m 4 #[.val (.ref a1)] [(.int (1 : Int32))])) _
    exact retOut X0 hx Bd.returns rfl (Or.inl ⟨rfl, Or.inl rfl, _, rfl⟩) (hb hby d24_4) hr
  · show Qul2 Z a1 kk b0 b1 h0 n0 _ s₁.heap _
    rw [e0]
    exact ⟨N0, rfl, rfl⟩
theorem ef_ul4 (m : MethodId) (a1 : Addr) : entryFrame m #[(.ref a1)] 1 = mkF m 0 #[.val (.ref a1)] [] := by first | (simp [entryFrame, mkF, argsToLocals, Value.category]; done) | rfl
def Qul4 (Z : State) (a1 : Addr) (kk : ClassId) (b0 : Int32) (b1 : Int32) (b2 : Int32) (b3 : Int32) (h0 : Heap) (n0 : Nat) (v : Option Value) (h : Heap) (L : List Loc) : Prop := Fr n0 L ∧ h = h0 ∧ (v = some (.int (2 : Int32)))
set_option maxRecDepth 65536 in
set_option maxHeartbeats 40000000 in
theorem rmUl4 (l : Launch) (Z : State) (a0 : Array Value) (hw : ∀ d ∈ tables_1, d.before a0 Z = true) (ws : List Jvm.Cond) (a1 : Addr) (kk : ClassId) (b0 : Int32) (b1 : Int32) (b2 : Int32) (b3 : Int32) (h0 : Heap) (n0 : Nat) (Z0 : n0 ≤ h0.size) (hV : Arv Z h0 a1 kk .byte (4 : Int32) [(.int b0), (.int b1), (.int b2), (.int b3)] (.int (0 : Int32))) :
    MetFree l (⟨"java/lang/StringUTF16", "length", "([B)I"⟩ : MethodName) (head1 (Jvm.Cond.code (⟨"java/lang/StringUTF16", "length", "([B)I"⟩ : MethodName) jdk_52_method_6_code 1 (some .int) :: ws) ({ frames := 0, cells := 0, slots := 0, locals := 0 } : Room)) (fun a U => a = #[(.ref a1)] ∧ Z.Warmed39 U.vm ∧ U.heap = h0) (fun _ _ _ _ _ => True) (fun _ U o U' => ∃ v L, o = .returned v ∧ Qul4 Z a1 kk b0 b1 b2 b3 h0 n0 v U'.heap L ∧ FrameEnd U o U' L ({ frames := 0, cells := 0, slots := 0, locals := 0 } : Room).cells ({ frames := 0, cells := 0, slots := 0, locals := 0 } : Room).slots) := by
  refine MetFree.of_bodySF (plainFor_of_name own_pn_6) hisR ?_
  intro p e s m args below meth c s₁ Bd hml0 hP hK
  obtain ⟨rfl, hZ, hh⟩ := hP
  have hx := Bd.exec
  have hby := Bd.bytes
  have hml : c.maxLocals = 1 := hml0
  have hown : s.vm.findClass "java/lang/StringUTF16" = some m.cls := findClass_of_methodNamed Bd.named
  have hnm := (name_of_methodNamed Bd.named Bd.method).1
  have X0 : Stand p l e ({ frames := 0, cells := 0, slots := 0, locals := 0 } : Room) s m #[(.ref a1)] below meth c s₁ [] 0 0 := Stand.of_body Bd
  have e0 : s₁.heap = h0 := by rw [← hh, Bd.state]; rfl
  have N0 := Fr.nil n0
  have pre0 : ∀ t, Steps p.tables e below (s₁.setTop (mkF m 0 #[.val (.ref a1)] [])) t → Steps p.tables e below (s₁.setTop (entryFrame m #[(.ref a1)] 1)) t := fun t k => castTop (ef_ul4 m a1) k
  obtain ⟨cl1, Ar1, -, S1, M1, -, -⟩ := id hV
  obtain ⟨fs, hr, hrun, hended, hW, hsame⟩ := X0.leave (v := (some (.int (2 : Int32)))) (fun h => by rw [Bd.returns] at h; cases h)
  refine ⟨_, _, pre0 _ ?_, hrun, hended, _, _, rfl, ?_, ⟨_, rfl⟩, hW, hsame.mono (by decide) (by decide)⟩
  · show Steps p.tables e below (s₁.setTop (mkF m 0 #[.val (.ref a1)] [])) _
    refine XS.aloadN X0.here hx rfl (hb hby d24_0) rfl rfl ?_
    show Steps p.tables e below (s₁.setTop (mkF m 1 #[.val (.ref a1)] [(.ref a1)])) _
    refine X0.arraylength hx (by rw [e0]; exact Ar1.1) (State.isArrayOf_alike hZ.alike Ar1.2.1) (g := (mkF m 1 #[.val (.ref a1)] [(.ref a1)])) rfl rfl (hb hby d24_1) _ ?_
    rw [len_of S1 M1]
    show Steps p.tables e below (s₁.setTop (mkF m 2 #[.val (.ref a1)] [(.int (4 : Int32))])) _
    refine XS.iconst X0.here hx rfl (hb hby d24_2) ?_
    show Steps p.tables e below (s₁.setTop (mkF m 3 #[.val (.ref a1)] [(.int (1 : Int32)), (.int (4 : Int32))])) _
    refine XS.ishr X0.here hx rfl (hb hby d24_3) rfl ?_
    show Steps p.tables e below (s₁.setTop (mkF m 4 #[.val (.ref a1)] [(.int (2 : Int32))])) _
    exact retOut X0 hx Bd.returns rfl (Or.inl ⟨rfl, Or.inl rfl, _, rfl⟩) (hb hby d24_4) hr
  · show Qul4 Z a1 kk b0 b1 b2 b3 h0 n0 _ s₁.heap _
    rw [e0]
    exact ⟨N0, rfl, rfl⟩
theorem d23_0 : decode jdk_52_method_91_code 0 = .ok (.iload_n 0, 1) := by decide +kernel
theorem d23_1 : decode jdk_52_method_91_code 1 = .ok (.aload_n 1, 1) := by decide +kernel
theorem d23_2 : decode jdk_52_method_91_code 2 = .ok (.invokestatic 48, 3) := by decide +kernel
theorem own_pd_2 : parseMethodDescriptor "([B)I" = some ⟨[(.array .byte)], some .int⟩ := by decide +kernel
theorem d23_5 : decode jdk_52_method_91_code 5 = .ok (.invokestatic 414, 3) := by decide +kernel
theorem own_pd_3 : parseMethodDescriptor "(II)V" = some ⟨[.int, .int], none⟩ := by decide +kernel
theorem d23_8 : decode jdk_52_method_91_code 8 = .ok (.return_, 1) := by decide +kernel
theorem ef_uc20 (m : MethodId) (a1 : Addr) : entryFrame m #[(.int (0 : Int32)), (.ref a1)] 2 = mkF m 0 #[.val (.int (0 : Int32)), .val (.ref a1)] [] := by first | (simp [entryFrame, mkF, argsToLocals, Value.category]; done) | rfl
def Quc20 (Z : State) (a1 : Addr) (kk : ClassId) (b0 : Int32) (b1 : Int32) (fv : Value) (h0 : Heap) (n0 : Nat) (v : Option Value) (h : Heap) (L : List Loc) : Prop := Fr n0 L ∧ h = h0 ∧ (v = none)
set_option maxRecDepth 65536 in
set_option maxHeartbeats 40000000 in
theorem rmUc20 (l : Launch) (Z : State) (a0 : Array Value) (hw : ∀ d ∈ tables_1, d.before a0 Z = true) (ws : List Jvm.Cond) (a1 : Addr) (kk : ClassId) (b0 : Int32) (b1 : Int32) (fv : Value) (h0 : Heap) (n0 : Nat) (Z0 : n0 ≤ h0.size) (hSf : Sta Z Z.heap "jdk/internal/util/Preconditions" "SIOOBE_FORMATTER" "Ljava/util/function/BiFunction;" fv) (hfr : fv.isRef = true) (hO : Old Z n0 h0) (hV : Arv Z h0 a1 kk .byte (2 : Int32) [(.int b0), (.int b1)] (.int (0 : Int32))) :
    MetFree l (⟨"java/lang/StringUTF16", "checkIndex", "(I[B)V"⟩ : MethodName) (head1 (Jvm.Cond.code (⟨"java/lang/StringUTF16", "checkIndex", "(I[B)V"⟩ : MethodName) jdk_52_method_91_code 2 none :: ws) ({ frames := 2, cells := 0, slots := 0, locals := 27 } : Room)) (fun a U => a = #[(.int (0 : Int32)), (.ref a1)] ∧ Z.Warmed39 U.vm ∧ U.heap = h0) (fun _ _ _ _ _ => True) (fun _ U o U' => ∃ v L, o = .returned v ∧ Quc20 Z a1 kk b0 b1 fv h0 n0 v U'.heap L ∧ FrameEnd U o U' L ({ frames := 2, cells := 0, slots := 0, locals := 27 } : Room).cells ({ frames := 2, cells := 0, slots := 0, locals := 27 } : Room).slots) := by
  refine MetFree.of_bodySF (plainFor_of_name own_pn_6) hisR ?_
  intro p e s m args below meth c s₁ Bd hml0 hP hK
  obtain ⟨rfl, hZ, hh⟩ := hP
  have hx := Bd.exec
  have hby := Bd.bytes
  have hml : c.maxLocals = 2 := hml0
  have hown : s.vm.findClass "java/lang/StringUTF16" = some m.cls := findClass_of_methodNamed Bd.named
  have hnm := (name_of_methodNamed Bd.named Bd.method).1
  have X0 : Stand p l e ({ frames := 2, cells := 0, slots := 0, locals := 27 } : Room) s m #[(.int (0 : Int32)), (.ref a1)] below meth c s₁ [] 0 0 := Stand.of_body Bd
  have e0 : s₁.heap = h0 := by rw [← hh, Bd.state]; rfl
  have N0 := Fr.nil n0
  have pre0 : ∀ t, Steps p.tables e below (s₁.setTop (mkF m 0 #[.val (.int (0 : Int32)), .val (.ref a1)] [])) t → Steps p.tables e below (s₁.setTop (entryFrame m #[(.int (0 : Int32)), (.ref a1)] 2)) t := fun t k => castTop (ef_uc20 m a1) k
  obtain ⟨_, _, ⟨T1, L1, k1, n1⟩, -, X1, ⟨Lc1, hQ1, l1, y1, z1⟩, st1⟩ := Jvm.LawKit.callS X0 hx (y := (⟨"java/lang/StringUTF16", "length", "([B)I"⟩ : MethodName)) hown (mvT hZ (own_k hw 103 rfl)) (mvT hZ (own_k hw 104 rfl)) (mvT hZ (own_k hw 22 rfl)) (mvT hZ (own_k hw 105 rfl)) (by decide) (backOf (W := 1) (rmUl2 l Z a0 hw [] a1 kk b0 b1 h0 n0 Z0 hV) hZ (own_k hw 105 rfl) (own_k hw 22 rfl) (by decide) (by decide)) (g := (mkF m 2 #[.val (.int (0 : Int32)), .val (.ref a1)] [(.ref a1), (.int (0 : Int32))])) rfl (by rw [hml]; rfl) (argsL := [(.ref a1)]) (rest := [(.int (0 : Int32))]) (lenOf own_pd_2 rfl) rfl (by show 2 * 0 + _ ≤ _; exact Nat.le_of_eq rfl) (hb hby d23_2) (fun _ _ => ⟨rfl, e0, (by decide : 0 + 0 ≤ _), (by decide : 0 + 0 ≤ _)⟩)
  dsimp only [Pt.U, Pt.locs, Pt.cells, Pt.slots] at X1 l1 y1 z1 st1 hQ1
  subst l1
  subst y1 z1
  obtain ⟨Nq1, eh1, hv1⟩ := hQ1
  have N1 := Fr.app N0 Nq1
  subst hv1
  obtain ⟨_, _, ⟨T2, L2, k2, n2⟩, -, X2, ⟨Lc2, hQ2, l2, y2, z2⟩, st2⟩ := Jvm.LawKit.callS X1 hx (y := (⟨"java/lang/String", "checkIndex", "(II)V"⟩ : MethodName)) hown (mvT hZ (own_k hw 106 rfl)) (mvT hZ (own_k hw 107 rfl)) (mvT hZ (own_k hw 7 rfl)) (mvT hZ (own_k hw 108 rfl)) (by decide) (backOf (W := 0) (rmSc l Z a0 hw [] (0 : Int32) (1 : Int32) fv h0 n0 Z0 hSf (hfr) hO (by decide) (by decide)) hZ (own_k hw 108 rfl) (own_k hw 7 rfl) (by decide) (by decide)) (g := (mkF m 5 #[.val (.int (0 : Int32)), .val (.ref a1)] [(.int (1 : Int32)), (.int (0 : Int32))])) rfl (by rw [hml]; rfl) (argsL := [(.int (0 : Int32)), (.int (1 : Int32))]) (rest := []) (lenOf own_pd_3 rfl) rfl (by show 2 * 0 + _ ≤ _; exact Nat.le_of_eq rfl) (hb hby d23_5) (fun _ _ => ⟨rfl, eh1, (by decide : 0 + 0 ≤ _), (by decide : 0 + 0 ≤ _)⟩)
  dsimp only [Pt.U, Pt.locs, Pt.cells, Pt.slots] at X2 l2 y2 z2 st2 hQ2
  subst l2
  subst y2 z2
  obtain ⟨Nq2, eh2, hv2⟩ := hQ2
  have N2 := Fr.app N1 Nq2
  subst hv2
  obtain ⟨fs, hr, hrun, hended, hW, hsame⟩ := X2.leave (v := none) (fun _ => rfl)
  refine ⟨_, _, pre0 _ ?_, hrun, hended, _, _, rfl, ?_, ⟨_, rfl⟩, hW, hsame.mono (by decide) (by decide)⟩
  · show Steps p.tables e below (s₁.setTop (mkF m 0 #[.val (.int (0 : Int32)), .val (.ref a1)] [])) _
    refine XS.iloadN X0.here hx rfl (hb hby d23_0) rfl ?_
    show Steps p.tables e below (s₁.setTop (mkF m 1 #[.val (.int (0 : Int32)), .val (.ref a1)] [(.int (0 : Int32))])) _
    refine XS.aloadN X0.here hx rfl (hb hby d23_1) rfl rfl ?_
    show Steps p.tables e below (s₁.setTop (mkF m 2 #[.val (.int (0 : Int32)), .val (.ref a1)] [(.ref a1), (.int (0 : Int32))])) _
    refine st1 _ ?_
    show Steps p.tables e below (T1.setTop (mkF m 5 #[.val (.int (0 : Int32)), .val (.ref a1)] [(.int (1 : Int32)), (.int (0 : Int32))])) _
    refine st2 _ ?_
    show Steps p.tables e below (T2.setTop (mkF m 8 #[.val (.int (0 : Int32)), .val (.ref a1)] [])) _
    exact X2.returnOut hx Bd.returns (hb hby d23_8) hr
  · show Quc20 Z a1 kk b0 b1 fv h0 n0 _ T2.heap _
    rw [eh2]
    exact ⟨N2, rfl, rfl⟩
theorem ef_uc40 (m : MethodId) (a1 : Addr) : entryFrame m #[(.int (0 : Int32)), (.ref a1)] 2 = mkF m 0 #[.val (.int (0 : Int32)), .val (.ref a1)] [] := by first | (simp [entryFrame, mkF, argsToLocals, Value.category]; done) | rfl
def Quc40 (Z : State) (a1 : Addr) (kk : ClassId) (b0 : Int32) (b1 : Int32) (b2 : Int32) (b3 : Int32) (fv : Value) (h0 : Heap) (n0 : Nat) (v : Option Value) (h : Heap) (L : List Loc) : Prop := Fr n0 L ∧ h = h0 ∧ (v = none)
set_option maxRecDepth 65536 in
set_option maxHeartbeats 40000000 in
theorem rmUc40 (l : Launch) (Z : State) (a0 : Array Value) (hw : ∀ d ∈ tables_1, d.before a0 Z = true) (ws : List Jvm.Cond) (a1 : Addr) (kk : ClassId) (b0 : Int32) (b1 : Int32) (b2 : Int32) (b3 : Int32) (fv : Value) (h0 : Heap) (n0 : Nat) (Z0 : n0 ≤ h0.size) (hSf : Sta Z Z.heap "jdk/internal/util/Preconditions" "SIOOBE_FORMATTER" "Ljava/util/function/BiFunction;" fv) (hfr : fv.isRef = true) (hO : Old Z n0 h0) (hV : Arv Z h0 a1 kk .byte (4 : Int32) [(.int b0), (.int b1), (.int b2), (.int b3)] (.int (0 : Int32))) :
    MetFree l (⟨"java/lang/StringUTF16", "checkIndex", "(I[B)V"⟩ : MethodName) (head1 (Jvm.Cond.code (⟨"java/lang/StringUTF16", "checkIndex", "(I[B)V"⟩ : MethodName) jdk_52_method_91_code 2 none :: ws) ({ frames := 2, cells := 0, slots := 0, locals := 27 } : Room)) (fun a U => a = #[(.int (0 : Int32)), (.ref a1)] ∧ Z.Warmed39 U.vm ∧ U.heap = h0) (fun _ _ _ _ _ => True) (fun _ U o U' => ∃ v L, o = .returned v ∧ Quc40 Z a1 kk b0 b1 b2 b3 fv h0 n0 v U'.heap L ∧ FrameEnd U o U' L ({ frames := 2, cells := 0, slots := 0, locals := 27 } : Room).cells ({ frames := 2, cells := 0, slots := 0, locals := 27 } : Room).slots) := by
  refine MetFree.of_bodySF (plainFor_of_name own_pn_6) hisR ?_
  intro p e s m args below meth c s₁ Bd hml0 hP hK
  obtain ⟨rfl, hZ, hh⟩ := hP
  have hx := Bd.exec
  have hby := Bd.bytes
  have hml : c.maxLocals = 2 := hml0
  have hown : s.vm.findClass "java/lang/StringUTF16" = some m.cls := findClass_of_methodNamed Bd.named
  have hnm := (name_of_methodNamed Bd.named Bd.method).1
  have X0 : Stand p l e ({ frames := 2, cells := 0, slots := 0, locals := 27 } : Room) s m #[(.int (0 : Int32)), (.ref a1)] below meth c s₁ [] 0 0 := Stand.of_body Bd
  have e0 : s₁.heap = h0 := by rw [← hh, Bd.state]; rfl
  have N0 := Fr.nil n0
  have pre0 : ∀ t, Steps p.tables e below (s₁.setTop (mkF m 0 #[.val (.int (0 : Int32)), .val (.ref a1)] [])) t → Steps p.tables e below (s₁.setTop (entryFrame m #[(.int (0 : Int32)), (.ref a1)] 2)) t := fun t k => castTop (ef_uc40 m a1) k
  obtain ⟨_, _, ⟨T1, L1, k1, n1⟩, -, X1, ⟨Lc1, hQ1, l1, y1, z1⟩, st1⟩ := Jvm.LawKit.callS X0 hx (y := (⟨"java/lang/StringUTF16", "length", "([B)I"⟩ : MethodName)) hown (mvT hZ (own_k hw 103 rfl)) (mvT hZ (own_k hw 104 rfl)) (mvT hZ (own_k hw 22 rfl)) (mvT hZ (own_k hw 105 rfl)) (by decide) (backOf (W := 1) (rmUl4 l Z a0 hw [] a1 kk b0 b1 b2 b3 h0 n0 Z0 hV) hZ (own_k hw 105 rfl) (own_k hw 22 rfl) (by decide) (by decide)) (g := (mkF m 2 #[.val (.int (0 : Int32)), .val (.ref a1)] [(.ref a1), (.int (0 : Int32))])) rfl (by rw [hml]; rfl) (argsL := [(.ref a1)]) (rest := [(.int (0 : Int32))]) (lenOf own_pd_2 rfl) rfl (by show 2 * 0 + _ ≤ _; exact Nat.le_of_eq rfl) (hb hby d23_2) (fun _ _ => ⟨rfl, e0, (by decide : 0 + 0 ≤ _), (by decide : 0 + 0 ≤ _)⟩)
  dsimp only [Pt.U, Pt.locs, Pt.cells, Pt.slots] at X1 l1 y1 z1 st1 hQ1
  subst l1
  subst y1 z1
  obtain ⟨Nq1, eh1, hv1⟩ := hQ1
  have N1 := Fr.app N0 Nq1
  subst hv1
  obtain ⟨_, _, ⟨T2, L2, k2, n2⟩, -, X2, ⟨Lc2, hQ2, l2, y2, z2⟩, st2⟩ := Jvm.LawKit.callS X1 hx (y := (⟨"java/lang/String", "checkIndex", "(II)V"⟩ : MethodName)) hown (mvT hZ (own_k hw 106 rfl)) (mvT hZ (own_k hw 107 rfl)) (mvT hZ (own_k hw 7 rfl)) (mvT hZ (own_k hw 108 rfl)) (by decide) (backOf (W := 0) (rmSc l Z a0 hw [] (0 : Int32) (2 : Int32) fv h0 n0 Z0 hSf (hfr) hO (by decide) (by decide)) hZ (own_k hw 108 rfl) (own_k hw 7 rfl) (by decide) (by decide)) (g := (mkF m 5 #[.val (.int (0 : Int32)), .val (.ref a1)] [(.int (2 : Int32)), (.int (0 : Int32))])) rfl (by rw [hml]; rfl) (argsL := [(.int (0 : Int32)), (.int (2 : Int32))]) (rest := []) (lenOf own_pd_3 rfl) rfl (by show 2 * 0 + _ ≤ _; exact Nat.le_of_eq rfl) (hb hby d23_5) (fun _ _ => ⟨rfl, eh1, (by decide : 0 + 0 ≤ _), (by decide : 0 + 0 ≤ _)⟩)
  dsimp only [Pt.U, Pt.locs, Pt.cells, Pt.slots] at X2 l2 y2 z2 st2 hQ2
  subst l2
  subst y2 z2
  obtain ⟨Nq2, eh2, hv2⟩ := hQ2
  have N2 := Fr.app N1 Nq2
  subst hv2
  obtain ⟨fs, hr, hrun, hended, hW, hsame⟩ := X2.leave (v := none) (fun _ => rfl)
  refine ⟨_, _, pre0 _ ?_, hrun, hended, _, _, rfl, ?_, ⟨_, rfl⟩, hW, hsame.mono (by decide) (by decide)⟩
  · show Steps p.tables e below (s₁.setTop (mkF m 0 #[.val (.int (0 : Int32)), .val (.ref a1)] [])) _
    refine XS.iloadN X0.here hx rfl (hb hby d23_0) rfl ?_
    show Steps p.tables e below (s₁.setTop (mkF m 1 #[.val (.int (0 : Int32)), .val (.ref a1)] [(.int (0 : Int32))])) _
    refine XS.aloadN X0.here hx rfl (hb hby d23_1) rfl rfl ?_
    show Steps p.tables e below (s₁.setTop (mkF m 2 #[.val (.int (0 : Int32)), .val (.ref a1)] [(.ref a1), (.int (0 : Int32))])) _
    refine st1 _ ?_
    show Steps p.tables e below (T1.setTop (mkF m 5 #[.val (.int (0 : Int32)), .val (.ref a1)] [(.int (2 : Int32)), (.int (0 : Int32))])) _
    refine st2 _ ?_
    show Steps p.tables e below (T2.setTop (mkF m 8 #[.val (.int (0 : Int32)), .val (.ref a1)] [])) _
    exact X2.returnOut hx Bd.returns (hb hby d23_8) hr
  · show Quc40 Z a1 kk b0 b1 b2 b3 fv h0 n0 _ T2.heap _
    rw [eh2]
    exact ⟨N2, rfl, rfl⟩
theorem ef_uc41 (m : MethodId) (a1 : Addr) : entryFrame m #[(.int (1 : Int32)), (.ref a1)] 2 = mkF m 0 #[.val (.int (1 : Int32)), .val (.ref a1)] [] := by first | (simp [entryFrame, mkF, argsToLocals, Value.category]; done) | rfl
def Quc41 (Z : State) (a1 : Addr) (kk : ClassId) (b0 : Int32) (b1 : Int32) (b2 : Int32) (b3 : Int32) (fv : Value) (h0 : Heap) (n0 : Nat) (v : Option Value) (h : Heap) (L : List Loc) : Prop := Fr n0 L ∧ h = h0 ∧ (v = none)
set_option maxRecDepth 65536 in
set_option maxHeartbeats 40000000 in
theorem rmUc41 (l : Launch) (Z : State) (a0 : Array Value) (hw : ∀ d ∈ tables_1, d.before a0 Z = true) (ws : List Jvm.Cond) (a1 : Addr) (kk : ClassId) (b0 : Int32) (b1 : Int32) (b2 : Int32) (b3 : Int32) (fv : Value) (h0 : Heap) (n0 : Nat) (Z0 : n0 ≤ h0.size) (hSf : Sta Z Z.heap "jdk/internal/util/Preconditions" "SIOOBE_FORMATTER" "Ljava/util/function/BiFunction;" fv) (hfr : fv.isRef = true) (hO : Old Z n0 h0) (hV : Arv Z h0 a1 kk .byte (4 : Int32) [(.int b0), (.int b1), (.int b2), (.int b3)] (.int (0 : Int32))) :
    MetFree l (⟨"java/lang/StringUTF16", "checkIndex", "(I[B)V"⟩ : MethodName) (head1 (Jvm.Cond.code (⟨"java/lang/StringUTF16", "checkIndex", "(I[B)V"⟩ : MethodName) jdk_52_method_91_code 2 none :: ws) ({ frames := 2, cells := 0, slots := 0, locals := 27 } : Room)) (fun a U => a = #[(.int (1 : Int32)), (.ref a1)] ∧ Z.Warmed39 U.vm ∧ U.heap = h0) (fun _ _ _ _ _ => True) (fun _ U o U' => ∃ v L, o = .returned v ∧ Quc41 Z a1 kk b0 b1 b2 b3 fv h0 n0 v U'.heap L ∧ FrameEnd U o U' L ({ frames := 2, cells := 0, slots := 0, locals := 27 } : Room).cells ({ frames := 2, cells := 0, slots := 0, locals := 27 } : Room).slots) := by
  refine MetFree.of_bodySF (plainFor_of_name own_pn_6) hisR ?_
  intro p e s m args below meth c s₁ Bd hml0 hP hK
  obtain ⟨rfl, hZ, hh⟩ := hP
  have hx := Bd.exec
  have hby := Bd.bytes
  have hml : c.maxLocals = 2 := hml0
  have hown : s.vm.findClass "java/lang/StringUTF16" = some m.cls := findClass_of_methodNamed Bd.named
  have hnm := (name_of_methodNamed Bd.named Bd.method).1
  have X0 : Stand p l e ({ frames := 2, cells := 0, slots := 0, locals := 27 } : Room) s m #[(.int (1 : Int32)), (.ref a1)] below meth c s₁ [] 0 0 := Stand.of_body Bd
  have e0 : s₁.heap = h0 := by rw [← hh, Bd.state]; rfl
  have N0 := Fr.nil n0
  have pre0 : ∀ t, Steps p.tables e below (s₁.setTop (mkF m 0 #[.val (.int (1 : Int32)), .val (.ref a1)] [])) t → Steps p.tables e below (s₁.setTop (entryFrame m #[(.int (1 : Int32)), (.ref a1)] 2)) t := fun t k => castTop (ef_uc41 m a1) k
  obtain ⟨_, _, ⟨T1, L1, k1, n1⟩, -, X1, ⟨Lc1, hQ1, l1, y1, z1⟩, st1⟩ := Jvm.LawKit.callS X0 hx (y := (⟨"java/lang/StringUTF16", "length", "([B)I"⟩ : MethodName)) hown (mvT hZ (own_k hw 103 rfl)) (mvT hZ (own_k hw 104 rfl)) (mvT hZ (own_k hw 22 rfl)) (mvT hZ (own_k hw 105 rfl)) (by decide) (backOf (W := 1) (rmUl4 l Z a0 hw [] a1 kk b0 b1 b2 b3 h0 n0 Z0 hV) hZ (own_k hw 105 rfl) (own_k hw 22 rfl) (by decide) (by decide)) (g := (mkF m 2 #[.val (.int (1 : Int32)), .val (.ref a1)] [(.ref a1), (.int (1 : Int32))])) rfl (by rw [hml]; rfl) (argsL := [(.ref a1)]) (rest := [(.int (1 : Int32))]) (lenOf own_pd_2 rfl) rfl (by show 2 * 0 + _ ≤ _; exact Nat.le_of_eq rfl) (hb hby d23_2) (fun _ _ => ⟨rfl, e0, (by decide : 0 + 0 ≤ _), (by decide : 0 + 0 ≤ _)⟩)
  dsimp only [Pt.U, Pt.locs, Pt.cells, Pt.slots] at X1 l1 y1 z1 st1 hQ1
  subst l1
  subst y1 z1
  obtain ⟨Nq1, eh1, hv1⟩ := hQ1
  have N1 := Fr.app N0 Nq1
  subst hv1
  obtain ⟨_, _, ⟨T2, L2, k2, n2⟩, -, X2, ⟨Lc2, hQ2, l2, y2, z2⟩, st2⟩ := Jvm.LawKit.callS X1 hx (y := (⟨"java/lang/String", "checkIndex", "(II)V"⟩ : MethodName)) hown (mvT hZ (own_k hw 106 rfl)) (mvT hZ (own_k hw 107 rfl)) (mvT hZ (own_k hw 7 rfl)) (mvT hZ (own_k hw 108 rfl)) (by decide) (backOf (W := 0) (rmSc l Z a0 hw [] (1 : Int32) (2 : Int32) fv h0 n0 Z0 hSf (hfr) hO (by decide) (by decide)) hZ (own_k hw 108 rfl) (own_k hw 7 rfl) (by decide) (by decide)) (g := (mkF m 5 #[.val (.int (1 : Int32)), .val (.ref a1)] [(.int (2 : Int32)), (.int (1 : Int32))])) rfl (by rw [hml]; rfl) (argsL := [(.int (1 : Int32)), (.int (2 : Int32))]) (rest := []) (lenOf own_pd_3 rfl) rfl (by show 2 * 0 + _ ≤ _; exact Nat.le_of_eq rfl) (hb hby d23_5) (fun _ _ => ⟨rfl, eh1, (by decide : 0 + 0 ≤ _), (by decide : 0 + 0 ≤ _)⟩)
  dsimp only [Pt.U, Pt.locs, Pt.cells, Pt.slots] at X2 l2 y2 z2 st2 hQ2
  subst l2
  subst y2 z2
  obtain ⟨Nq2, eh2, hv2⟩ := hQ2
  have N2 := Fr.app N1 Nq2
  subst hv2
  obtain ⟨fs, hr, hrun, hended, hW, hsame⟩ := X2.leave (v := none) (fun _ => rfl)
  refine ⟨_, _, pre0 _ ?_, hrun, hended, _, _, rfl, ?_, ⟨_, rfl⟩, hW, hsame.mono (by decide) (by decide)⟩
  · show Steps p.tables e below (s₁.setTop (mkF m 0 #[.val (.int (1 : Int32)), .val (.ref a1)] [])) _
    refine XS.iloadN X0.here hx rfl (hb hby d23_0) rfl ?_
    show Steps p.tables e below (s₁.setTop (mkF m 1 #[.val (.int (1 : Int32)), .val (.ref a1)] [(.int (1 : Int32))])) _
    refine XS.aloadN X0.here hx rfl (hb hby d23_1) rfl rfl ?_
    show Steps p.tables e below (s₁.setTop (mkF m 2 #[.val (.int (1 : Int32)), .val (.ref a1)] [(.ref a1), (.int (1 : Int32))])) _
    refine st1 _ ?_
    show Steps p.tables e below (T1.setTop (mkF m 5 #[.val (.int (1 : Int32)), .val (.ref a1)] [(.int (2 : Int32)), (.int (1 : Int32))])) _
    refine st2 _ ?_
    show Steps p.tables e below (T2.setTop (mkF m 8 #[.val (.int (1 : Int32)), .val (.ref a1)] [])) _
    exact X2.returnOut hx Bd.returns (hb hby d23_8) hr
  · show Quc41 Z a1 kk b0 b1 b2 b3 fv h0 n0 _ T2.heap _
    rw [eh2]
    exact ⟨N2, rfl, rfl⟩
theorem d18_0 : decode jdk_52_method_5_code 0 = .ok (.getstatic 44, 3) := by decide +kernel
theorem d18_3 : decode jdk_52_method_5_code 3 = .ok (.ifCond .ne 25, 3) := by decide +kernel
theorem d18_28 : decode jdk_52_method_5_code 28 = .ok (.iload_n 1, 1) := by decide +kernel
theorem d18_29 : decode jdk_52_method_5_code 29 = .ok (.iconst 1, 1) := by decide +kernel
theorem d18_30 : decode jdk_52_method_5_code 30 = .ok (.ishl, 1) := by decide +kernel
theorem d18_31 : decode jdk_52_method_5_code 31 = .ok (.istore_n 1, 1) := by decide +kernel
theorem d18_32 : decode jdk_52_method_5_code 32 = .ok (.aload_n 0, 1) := by decide +kernel
theorem d18_33 : decode jdk_52_method_5_code 33 = .ok (.iload_n 1, 1) := by decide +kernel
theorem d18_34 : decode jdk_52_method_5_code 34 = .ok (.iinc 1 1, 3) := by decide +kernel
theorem d18_37 : decode jdk_52_method_5_code 37 = .ok (.baload, 1) := by decide +kernel
theorem d18_38 : decode jdk_52_method_5_code 38 = .ok (.sipush 255, 3) := by decide +kernel
theorem d18_41 : decode jdk_52_method_5_code 41 = .ok (.iand, 1) := by decide +kernel
theorem d18_42 : decode jdk_52_method_5_code 42 = .ok (.getstatic 59, 3) := by decide +kernel
theorem d18_45 : decode jdk_52_method_5_code 45 = .ok (.ishl, 1) := by decide +kernel
theorem d18_46 : decode jdk_52_method_5_code 46 = .ok (.aload_n 0, 1) := by decide +kernel
theorem d18_47 : decode jdk_52_method_5_code 47 = .ok (.iload_n 1, 1) := by decide +kernel
theorem d18_48 : decode jdk_52_method_5_code 48 = .ok (.baload, 1) := by decide +kernel
theorem d18_49 : decode jdk_52_method_5_code 49 = .ok (.sipush 255, 3) := by decide +kernel
theorem d18_52 : decode jdk_52_method_5_code 52 = .ok (.iand, 1) := by decide +kernel
theorem d18_53 : decode jdk_52_method_5_code 53 = .ok (.getstatic 63, 3) := by decide +kernel
theorem d18_56 : decode jdk_52_method_5_code 56 = .ok (.ishl, 1) := by decide +kernel
theorem d18_57 : decode jdk_52_method_5_code 57 = .ok (.ior, 1) := by decide +kernel
theorem d18_58 : decode jdk_52_method_5_code 58 = .ok (.i2c, 1) := by decide +kernel
theorem d18_59 : decode jdk_52_method_5_code 59 = .ok (.ireturn, 1) := by decide +kernel
theorem ef_gc20 (m : MethodId) (a1 : Addr) : entryFrame m #[(.ref a1), (.int (0 : Int32))] 2 = mkF m 0 #[.val (.ref a1), .val (.int (0 : Int32))] [] := by first | (simp [entryFrame, mkF, argsToLocals, Value.category]; done) | rfl
def Qgc20 (Z : State) (a1 : Addr) (kk : ClassId) (b0 : Int32) (b1 : Int32) (ch : Int32) (h0 : Heap) (n0 : Nat) (v : Option Value) (h : Heap) (L : List Loc) : Prop := Fr n0 L ∧ h = h0 ∧ (v = some (.int ch))
set_option maxRecDepth 65536 in
set_option maxHeartbeats 40000000 in
theorem rmGc20 (l : Launch) (Z : State) (a0 : Array Value) (hw : ∀ d ∈ tables_1, d.before a0 Z = true) (ws : List Jvm.Cond) (a1 : Addr) (kk : ClassId) (b0 : Int32) (b1 : Int32) (ch : Int32) (h0 : Heap) (n0 : Nat) (Z0 : n0 ≤ h0.size) (hSa : Sta Z Z.heap "java/lang/StringUTF16" "$assertionsDisabled" "Z" (.int (1 : Int32))) (hSh : Sta Z Z.heap "java/lang/StringUTF16" "HI_BYTE_SHIFT" "I" (.int (0 : Int32))) (hSl : Sta Z Z.heap "java/lang/StringUTF16" "LO_BYTE_SHIFT" "I" (.int (8 : Int32))) (hO : Old Z n0 h0) (hV : Arv Z h0 a1 kk .byte (2 : Int32) [(.int b0), (.int b1)] (.int (0 : Int32))) (hD : nar .char (own_d16 b0 b1) = ch) :
    MetFree l (⟨"java/lang/StringUTF16", "getChar", "([BI)C"⟩ : MethodName) (head1 (Jvm.Cond.code (⟨"java/lang/StringUTF16", "getChar", "([BI)C"⟩ : MethodName) jdk_52_method_5_code 2 (some .char) :: ws) ({ frames := 0, cells := 0, slots := 0, locals := 0 } : Room)) (fun a U => a = #[(.ref a1), (.int (0 : Int32))] ∧ Z.Warmed39 U.vm ∧ U.heap = h0) (fun _ _ _ _ _ => True) (fun _ U o U' => ∃ v L, o = .returned v ∧ Qgc20 Z a1 kk b0 b1 ch h0 n0 v U'.heap L ∧ FrameEnd U o U' L ({ frames := 0, cells := 0, slots := 0, locals := 0 } : Room).cells ({ frames := 0, cells := 0, slots := 0, locals := 0 } : Room).slots) := by
  refine MetFree.of_bodySF (plainFor_of_name own_pn_6) hisR ?_
  intro p e s m args below meth c s₁ Bd hml0 hP hK
  obtain ⟨rfl, hZ, hh⟩ := hP
  have hx := Bd.exec
  have hby := Bd.bytes
  have hml : c.maxLocals = 2 := hml0
  have hown : s.vm.findClass "java/lang/StringUTF16" = some m.cls := findClass_of_methodNamed Bd.named
  have hnm := (name_of_methodNamed Bd.named Bd.method).1
  have X0 : Stand p l e ({ frames := 0, cells := 0, slots := 0, locals := 0 } : Room) s m #[(.ref a1), (.int (0 : Int32))] below meth c s₁ [] 0 0 := Stand.of_body Bd
  have e0 : s₁.heap = h0 := by rw [← hh, Bd.state]; rfl
  have N0 := Fr.nil n0
  have pre0 : ∀ t, Steps p.tables e below (s₁.setTop (mkF m 0 #[.val (.ref a1), .val (.int (0 : Int32))] [])) t → Steps p.tables e below (s₁.setTop (entryFrame m #[(.ref a1), (.int (0 : Int32))] 2)) t := fun t k => castTop (ef_gc20 m a1) k
  obtain ⟨T1, X1, e1, st1⟩ := getS2 X0 hx hZ hown (host := "") (Or.inl (own_k hw 77 rfl)) Via.refl e0 (hSa.ext hO.2) (g := (mkF m 0 #[.val (.ref a1), .val (.int (0 : Int32))] [])) rfl (hb hby d18_0)
  obtain ⟨cl2, Ar2, q2, S2, M2, H2, G2⟩ := id hV
  have hin2 : ¬ ((0 : Int32) < 0 ∨ cl2.slots.size ≤ ((0 : Int32)).toNatClampNeg) := inb_of S2 ⟨by decide, by decide⟩
  have hat2 : cl2.slots[((0 : Int32)).toNatClampNeg]? = some (.int b0) := H2.at hin2 rfl
  obtain ⟨T3, X3, e3, st3⟩ := getS2 X1 hx hZ hown (host := "") (Or.inl (own_k hw 78 rfl)) Via.refl e1 (hSh.ext hO.2) (g := (mkF m 42 #[.val (.ref a1), .val (.int (1 : Int32))] [(.int (b0 &&& (255 : Int32)))])) rfl (hb hby d18_42)
  obtain ⟨cl4, Ar4, q4, S4, M4, H4, G4⟩ := id hV
  have hin4 : ¬ ((1 : Int32) < 0 ∨ cl4.slots.size ≤ ((1 : Int32)).toNatClampNeg) := inb_of S4 ⟨by decide, by decide⟩
  have hat4 : cl4.slots[((1 : Int32)).toNatClampNeg]? = some (.int b1) := H4.at hin4 rfl
  obtain ⟨T5, X5, e5, st5⟩ := getS2 X3 hx hZ hown (host := "") (Or.inl (own_k hw 79 rfl)) Via.refl e3 (hSl.ext hO.2) (g := (mkF m 53 #[.val (.ref a1), .val (.int (1 : Int32))] [(.int (b1 &&& (255 : Int32))), (.int ((b0 &&& (255 : Int32)) <<< ((0 : Int32) &&& 31)))])) rfl (hb hby d18_53)
  obtain ⟨fs, hr, hrun, hended, hW, hsame⟩ := X5.leave (v := (some (.int (nar .char ((((b0 &&& (255 : Int32)) <<< ((0 : Int32) &&& 31)) ||| ((b1 &&& (255 : Int32)) <<< ((8 : Int32) &&& 31))).toUInt32.toUInt16.toUInt32.toInt32))))) (fun h => by rw [Bd.returns] at h; cases h)
  refine ⟨_, _, pre0 _ ?_, hrun, hended, _, _, rfl, ?_, ⟨_, rfl⟩, hW, hsame.mono (by decide) (by decide)⟩
  · show Steps p.tables e below (s₁.setTop (mkF m 0 #[.val (.ref a1), .val (.int (0 : Int32))] [])) _
    refine st1 _ ?_
    show Steps p.tables e below (T1.setTop (mkF m 3 #[.val (.ref a1), .val (.int (0 : Int32))] [(.int (1 : Int32))])) _
    refine XS.ifYes X1.here hx rfl (pc0 := 3) (pc' := 28) rfl (hb hby d18_3) rfl (by decide) (by decide) (by decide) ?_
    show Steps p.tables e below (T1.setTop (mkF m 28 #[.val (.ref a1), .val (.int (0 : Int32))] [])) _
    refine XS.iloadN X1.here hx rfl (hb hby d18_28) rfl ?_
    show Steps p.tables e below (T1.setTop (mkF m 29 #[.val (.ref a1), .val (.int (0 : Int32))] [(.int (0 : Int32))])) _
    refine XS.iconst X1.here hx rfl (hb hby d18_29) ?_
    show Steps p.tables e below (T1.setTop (mkF m 30 #[.val (.ref a1), .val (.int (0 : Int32))] [(.int (1 : Int32)), (.int (0 : Int32))])) _
    refine XS.ishl X1.here hx rfl (hb hby d18_30) rfl ?_
    show Steps p.tables e below (T1.setTop (mkF m 31 #[.val (.ref a1), .val (.int (0 : Int32))] [(.int (0 : Int32))])) _
    refine XS.istoreN X1.here hx rfl (hb hby d18_31) rfl (l' := #[.val (.ref a1), .val (.int (0 : Int32))]) rfl ?_
    show Steps p.tables e below (T1.setTop (mkF m 32 #[.val (.ref a1), .val (.int (0 : Int32))] [])) _
    refine XS.aloadN X1.here hx rfl (hb hby d18_32) rfl rfl ?_
    show Steps p.tables e below (T1.setTop (mkF m 33 #[.val (.ref a1), .val (.int (0 : Int32))] [(.ref a1)])) _
    refine XS.iloadN X1.here hx rfl (hb hby d18_33) rfl ?_
    show Steps p.tables e below (T1.setTop (mkF m 34 #[.val (.ref a1), .val (.int (0 : Int32))] [(.int (0 : Int32)), (.ref a1)])) _
    refine XS.iinc X1.here hx rfl (hb hby d18_34) rfl (l' := #[.val (.ref a1), .val (.int (1 : Int32))]) rfl ?_
    show Steps p.tables e below (T1.setTop (mkF m 37 #[.val (.ref a1), .val (.int (1 : Int32))] [(.int (0 : Int32)), (.ref a1)])) _
    refine X1.baloadBytes hx (j := (0 : Int32)) (v := (.int b0)) (by rw [e1]; exact Ar2.1) (State.isArrayOf_alike hZ.alike Ar2.2.1) Ar2.2.2 hin2 hat2 (g := (mkF m 37 #[.val (.ref a1), .val (.int (1 : Int32))] [(.int (0 : Int32)), (.ref a1)])) rfl rfl (hb hby d18_37) _ ?_
    show Steps p.tables e below (T1.setTop (mkF m 38 #[.val (.ref a1), .val (.int (1 : Int32))] [(.int b0)])) _
    refine XS.sipush X1.here hx rfl (hb hby d18_38) ?_
    show Steps p.tables e below (T1.setTop (mkF m 41 #[.val (.ref a1), .val (.int (1 : Int32))] [(.int (255 : Int32)), (.int b0)])) _
    refine XS.iand X1.here hx rfl (hb hby d18_41) rfl ?_
    show Steps p.tables e below (T1.setTop (mkF m 42 #[.val (.ref a1), .val (.int (1 : Int32))] [(.int (b0 &&& (255 : Int32)))])) _
    refine st3 _ ?_
    show Steps p.tables e below (T3.setTop (mkF m 45 #[.val (.ref a1), .val (.int (1 : Int32))] [(.int (0 : Int32)), (.int (b0 &&& (255 : Int32)))])) _
    refine XS.ishl X3.here hx rfl (hb hby d18_45) rfl ?_
    show Steps p.tables e below (T3.setTop (mkF m 46 #[.val (.ref a1), .val (.int (1 : Int32))] [(.int ((b0 &&& (255 : Int32)) <<< ((0 : Int32) &&& 31)))])) _
    refine XS.aloadN X3.here hx rfl (hb hby d18_46) rfl rfl ?_
    show Steps p.tables e below (T3.setTop (mkF m 47 #[.val (.ref a1), .val (.int (1 : Int32))] [(.ref a1), (.int ((b0 &&& (255 : Int32)) <<< ((0 : Int32) &&& 31)))])) _
    refine XS.iloadN X3.here hx rfl (hb hby d18_47) rfl ?_
    show Steps p.tables e below (T3.setTop (mkF m 48 #[.val (.ref a1), .val (.int (1 : Int32))] [(.int (1 : Int32)), (.ref a1), (.int ((b0 &&& (255 : Int32)) <<< ((0 : Int32) &&& 31)))])) _
    refine X3.baloadBytes hx (j := (1 : Int32)) (v := (.int b1)) (by rw [e3]; exact Ar4.1) (State.isArrayOf_alike hZ.alike Ar4.2.1) Ar4.2.2 hin4 hat4 (g := (mkF m 48 #[.val (.ref a1), .val (.int (1 : Int32))] [(.int (1 : Int32)), (.ref a1), (.int ((b0 &&& (255 : Int32)) <<< ((0 : Int32) &&& 31)))])) rfl rfl (hb hby d18_48) _ ?_
    show Steps p.tables e below (T3.setTop (mkF m 49 #[.val (.ref a1), .val (.int (1 : Int32))] [(.int b1), (.int ((b0 &&& (255 : Int32)) <<< ((0 : Int32) &&& 31)))])) _
    refine XS.sipush X3.here hx rfl (hb hby d18_49) ?_
    show Steps p.tables e below (T3.setTop (mkF m 52 #[.val (.ref a1), .val (.int (1 : Int32))] [(.int (255 : Int32)), (.int b1), (.int ((b0 &&& (255 : Int32)) <<< ((0 : Int32) &&& 31)))])) _
    refine XS.iand X3.here hx rfl (hb hby d18_52) rfl ?_
    show Steps p.tables e below (T3.setTop (mkF m 53 #[.val (.ref a1), .val (.int (1 : Int32))] [(.int (b1 &&& (255 : Int32))), (.int ((b0 &&& (255 : Int32)) <<< ((0 : Int32) &&& 31)))])) _
    refine st5 _ ?_
    show Steps p.tables e below (T5.setTop (mkF m 56 #[.val (.ref a1), .val (.int (1 : Int32))] [(.int (8 : Int32)), (.int (b1 &&& (255 : Int32))), (.int ((b0 &&& (255 : Int32)) <<< ((0 : Int32) &&& 31)))])) _
    refine XS.ishl X5.here hx rfl (hb hby d18_56) rfl ?_
    show Steps p.tables e below (T5.setTop (mkF m 57 #[.val (.ref a1), .val (.int (1 : Int32))] [(.int ((b1 &&& (255 : Int32)) <<< ((8 : Int32) &&& 31))), (.int ((b0 &&& (255 : Int32)) <<< ((0 : Int32) &&& 31)))])) _
    refine XS.ior X5.here hx rfl (hb hby d18_57) rfl ?_
    show Steps p.tables e below (T5.setTop (mkF m 58 #[.val (.ref a1), .val (.int (1 : Int32))] [(.int (((b0 &&& (255 : Int32)) <<< ((0 : Int32) &&& 31)) ||| ((b1 &&& (255 : Int32)) <<< ((8 : Int32) &&& 31))))])) _
    refine XS.i2c X5.here hx rfl (hb hby d18_58) rfl ?_
    show Steps p.tables e below (T5.setTop (mkF m 59 #[.val (.ref a1), .val (.int (1 : Int32))] [(.int ((((b0 &&& (255 : Int32)) <<< ((0 : Int32) &&& 31)) ||| ((b1 &&& (255 : Int32)) <<< ((8 : Int32) &&& 31))).toUInt32.toUInt16.toUInt32.toInt32))])) _
    exact retN X5 hx (t := .char) Bd.returns (by simp) (hb hby d18_59) hr
  · show Qgc20 Z a1 kk b0 b1 ch h0 n0 _ T5.heap _
    rw [e5]
    exact ⟨N0, rfl, (congrArg (fun z => some (Value.int z)) hD)⟩
theorem ef_gc40 (m : MethodId) (a1 : Addr) : entryFrame m #[(.ref a1), (.int (0 : Int32))] 2 = mkF m 0 #[.val (.ref a1), .val (.int (0 : Int32))] [] := by first | (simp [entryFrame, mkF, argsToLocals, Value.category]; done) | rfl
def Qgc40 (Z : State) (a1 : Addr) (kk : ClassId) (b0 : Int32) (b1 : Int32) (b2 : Int32) (b3 : Int32) (ch : Int32) (h0 : Heap) (n0 : Nat) (v : Option Value) (h : Heap) (L : List Loc) : Prop := Fr n0 L ∧ h = h0 ∧ (v = some (.int ch))
set_option maxRecDepth 65536 in
set_option maxHeartbeats 40000000 in
theorem rmGc40 (l : Launch) (Z : State) (a0 : Array Value) (hw : ∀ d ∈ tables_1, d.before a0 Z = true) (ws : List Jvm.Cond) (a1 : Addr) (kk : ClassId) (b0 : Int32) (b1 : Int32) (b2 : Int32) (b3 : Int32) (ch : Int32) (h0 : Heap) (n0 : Nat) (Z0 : n0 ≤ h0.size) (hSa : Sta Z Z.heap "java/lang/StringUTF16" "$assertionsDisabled" "Z" (.int (1 : Int32))) (hSh : Sta Z Z.heap "java/lang/StringUTF16" "HI_BYTE_SHIFT" "I" (.int (0 : Int32))) (hSl : Sta Z Z.heap "java/lang/StringUTF16" "LO_BYTE_SHIFT" "I" (.int (8 : Int32))) (hO : Old Z n0 h0) (hV : Arv Z h0 a1 kk .byte (4 : Int32) [(.int b0), (.int b1), (.int b2), (.int b3)] (.int (0 : Int32))) (hD : nar .char (own_d16 b0 b1) = ch) :
    MetFree l (⟨"java/lang/StringUTF16", "getChar", "([BI)C"⟩ : MethodName) (head1 (Jvm.Cond.code (⟨"java/lang/StringUTF16", "getChar", "([BI)C"⟩ : MethodName) jdk_52_method_5_code 2 (some .char) :: ws) ({ frames := 0, cells := 0, slots := 0, locals := 0 } : Room)) (fun a U => a = #[(.ref a1), (.int (0 : Int32))] ∧ Z.Warmed39 U.vm ∧ U.heap = h0) (fun _ _ _ _ _ => True) (fun _ U o U' => ∃ v L, o = .returned v ∧ Qgc40 Z a1 kk b0 b1 b2 b3 ch h0 n0 v U'.heap L ∧ FrameEnd U o U' L ({ frames := 0, cells := 0, slots := 0, locals := 0 } : Room).cells ({ frames := 0, cells := 0, slots := 0, locals := 0 } : Room).slots) := by
  refine MetFree.of_bodySF (plainFor_of_name own_pn_6) hisR ?_
  intro p e s m args below meth c s₁ Bd hml0 hP hK
  obtain ⟨rfl, hZ, hh⟩ := hP
  have hx := Bd.exec
  have hby := Bd.bytes
  have hml : c.maxLocals = 2 := hml0
  have hown : s.vm.findClass "java/lang/StringUTF16" = some m.cls := findClass_of_methodNamed Bd.named
  have hnm := (name_of_methodNamed Bd.named Bd.method).1
  have X0 : Stand p l e ({ frames := 0, cells := 0, slots := 0, locals := 0 } : Room) s m #[(.ref a1), (.int (0 : Int32))] below meth c s₁ [] 0 0 := Stand.of_body Bd
  have e0 : s₁.heap = h0 := by rw [← hh, Bd.state]; rfl
  have N0 := Fr.nil n0
  have pre0 : ∀ t, Steps p.tables e below (s₁.setTop (mkF m 0 #[.val (.ref a1), .val (.int (0 : Int32))] [])) t → Steps p.tables e below (s₁.setTop (entryFrame m #[(.ref a1), (.int (0 : Int32))] 2)) t := fun t k => castTop (ef_gc40 m a1) k
  obtain ⟨T1, X1, e1, st1⟩ := getS2 X0 hx hZ hown (host := "") (Or.inl (own_k hw 77 rfl)) Via.refl e0 (hSa.ext hO.2) (g := (mkF m 0 #[.val (.ref a1), .val (.int (0 : Int32))] [])) rfl (hb hby d18_0)
  obtain ⟨cl2, Ar2, q2, S2, M2, H2, G2⟩ := id hV
  have hin2 : ¬ ((0 : Int32) < 0 ∨ cl2.slots.size ≤ ((0 : Int32)).toNatClampNeg) := inb_of S2 ⟨by decide, by decide⟩
  have hat2 : cl2.slots[((0 : Int32)).toNatClampNeg]? = some (.int b0) := H2.at hin2 rfl
  obtain ⟨T3, X3, e3, st3⟩ := getS2 X1 hx hZ hown (host := "") (Or.inl (own_k hw 78 rfl)) Via.refl e1 (hSh.ext hO.2) (g := (mkF m 42 #[.val (.ref a1), .val (.int (1 : Int32))] [(.int (b0 &&& (255 : Int32)))])) rfl (hb hby d18_42)
  obtain ⟨cl4, Ar4, q4, S4, M4, H4, G4⟩ := id hV
  have hin4 : ¬ ((1 : Int32) < 0 ∨ cl4.slots.size ≤ ((1 : Int32)).toNatClampNeg) := inb_of S4 ⟨by decide, by decide⟩
  have hat4 : cl4.slots[((1 : Int32)).toNatClampNeg]? = some (.int b1) := H4.at hin4 rfl
  obtain ⟨T5, X5, e5, st5⟩ := getS2 X3 hx hZ hown (host := "") (Or.inl (own_k hw 79 rfl)) Via.refl e3 (hSl.ext hO.2) (g := (mkF m 53 #[.val (.ref a1), .val (.int (1 : Int32))] [(.int (b1 &&& (255 : Int32))), (.int ((b0 &&& (255 : Int32)) <<< ((0 : Int32) &&& 31)))])) rfl (hb hby d18_53)
  obtain ⟨fs, hr, hrun, hended, hW, hsame⟩ := X5.leave (v := (some (.int (nar .char ((((b0 &&& (255 : Int32)) <<< ((0 : Int32) &&& 31)) ||| ((b1 &&& (255 : Int32)) <<< ((8 : Int32) &&& 31))).toUInt32.toUInt16.toUInt32.toInt32))))) (fun h => by rw [Bd.returns] at h; cases h)
  refine ⟨_, _, pre0 _ ?_, hrun, hended, _, _, rfl, ?_, ⟨_, rfl⟩, hW, hsame.mono (by decide) (by decide)⟩
  · show Steps p.tables e below (s₁.setTop (mkF m 0 #[.val (.ref a1), .val (.int (0 : Int32))] [])) _
    refine st1 _ ?_
    show Steps p.tables e below (T1.setTop (mkF m 3 #[.val (.ref a1), .val (.int (0 : Int32))] [(.int (1 : Int32))])) _
    refine XS.ifYes X1.here hx rfl (pc0 := 3) (pc' := 28) rfl (hb hby d18_3) rfl (by decide) (by decide) (by decide) ?_
    show Steps p.tables e below (T1.setTop (mkF m 28 #[.val (.ref a1), .val (.int (0 : Int32))] [])) _
    refine XS.iloadN X1.here hx rfl (hb hby d18_28) rfl ?_
    show Steps p.tables e below (T1.setTop (mkF m 29 #[.val (.ref a1), .val (.int (0 : Int32))] [(.int (0 : Int32))])) _
    refine XS.iconst X1.here hx rfl (hb hby d18_29) ?_
    show Steps p.tables e below (T1.setTop (mkF m 30 #[.val (.ref a1), .val (.int (0 : Int32))] [(.int (1 : Int32)), (.int (0 : Int32))])) _
    refine XS.ishl X1.here hx rfl (hb hby d18_30) rfl ?_
    show Steps p.tables e below (T1.setTop (mkF m 31 #[.val (.ref a1), .val (.int (0 : Int32))] [(.int (0 : Int32))])) _
    refine XS.istoreN X1.here hx rfl (hb hby d18_31) rfl (l' := #[.val (.ref a1), .val (.int (0 : Int32))]) rfl ?_
    show Steps p.tables e below (T1.setTop (mkF m 32 #[.val (.ref a1), .val (.int (0 : Int32))] [])) _
    refine XS.aloadN X1.here hx rfl (hb hby d18_32) rfl rfl ?_
    show Steps p.tables e below (T1.setTop (mkF m 33 #[.val (.ref a1), .val (.int (0 : Int32))] [(.ref a1)])) _
    refine XS.iloadN X1.here hx rfl (hb hby d18_33) rfl ?_
    show Steps p.tables e below (T1.setTop (mkF m 34 #[.val (.ref a1), .val (.int (0 : Int32))] [(.int (0 : Int32)), (.ref a1)])) _
    refine XS.iinc X1.here hx rfl (hb hby d18_34) rfl (l' := #[.val (.ref a1), .val (.int (1 : Int32))]) rfl ?_
    show Steps p.tables e below (T1.setTop (mkF m 37 #[.val (.ref a1), .val (.int (1 : Int32))] [(.int (0 : Int32)), (.ref a1)])) _
    refine X1.baloadBytes hx (j := (0 : Int32)) (v := (.int b0)) (by rw [e1]; exact Ar2.1) (State.isArrayOf_alike hZ.alike Ar2.2.1) Ar2.2.2 hin2 hat2 (g := (mkF m 37 #[.val (.ref a1), .val (.int (1 : Int32))] [(.int (0 : Int32)), (.ref a1)])) rfl rfl (hb hby d18_37) _ ?_
    show Steps p.tables e below (T1.setTop (mkF m 38 #[.val (.ref a1), .val (.int (1 : Int32))] [(.int b0)])) _
    refine XS.sipush X1.here hx rfl (hb hby d18_38) ?_
    show Steps p.tables e below (T1.setTop (mkF m 41 #[.val (.ref a1), .val (.int (1 : Int32))] [(.int (255 : Int32)), (.int b0)])) _
    refine XS.iand X1.here hx rfl (hb hby d18_41) rfl ?_
    show Steps p.tables e below (T1.setTop (mkF m 42 #[.val (.ref a1), .val (.int (1 : Int32))] [(.int (b0 &&& (255 : Int32)))])) _
    refine st3 _ ?_
    show Steps p.tables e below (T3.setTop (mkF m 45 #[.val (.ref a1), .val (.int (1 : Int32))] [(.int (0 : Int32)), (.int (b0 &&& (255 : Int32)))])) _
    refine XS.ishl X3.here hx rfl (hb hby d18_45) rfl ?_
    show Steps p.tables e below (T3.setTop (mkF m 46 #[.val (.ref a1), .val (.int (1 : Int32))] [(.int ((b0 &&& (255 : Int32)) <<< ((0 : Int32) &&& 31)))])) _
    refine XS.aloadN X3.here hx rfl (hb hby d18_46) rfl rfl ?_
    show Steps p.tables e below (T3.setTop (mkF m 47 #[.val (.ref a1), .val (.int (1 : Int32))] [(.ref a1), (.int ((b0 &&& (255 : Int32)) <<< ((0 : Int32) &&& 31)))])) _
    refine XS.iloadN X3.here hx rfl (hb hby d18_47) rfl ?_
    show Steps p.tables e below (T3.setTop (mkF m 48 #[.val (.ref a1), .val (.int (1 : Int32))] [(.int (1 : Int32)), (.ref a1), (.int ((b0 &&& (255 : Int32)) <<< ((0 : Int32) &&& 31)))])) _
    refine X3.baloadBytes hx (j := (1 : Int32)) (v := (.int b1)) (by rw [e3]; exact Ar4.1) (State.isArrayOf_alike hZ.alike Ar4.2.1) Ar4.2.2 hin4 hat4 (g := (mkF m 48 #[.val (.ref a1), .val (.int (1 : Int32))] [(.int (1 : Int32)), (.ref a1), (.int ((b0 &&& (255 : Int32)) <<< ((0 : Int32) &&& 31)))])) rfl rfl (hb hby d18_48) _ ?_
    show Steps p.tables e below (T3.setTop (mkF m 49 #[.val (.ref a1), .val (.int (1 : Int32))] [(.int b1), (.int ((b0 &&& (255 : Int32)) <<< ((0 : Int32) &&& 31)))])) _
    refine XS.sipush X3.here hx rfl (hb hby d18_49) ?_
    show Steps p.tables e below (T3.setTop (mkF m 52 #[.val (.ref a1), .val (.int (1 : Int32))] [(.int (255 : Int32)), (.int b1), (.int ((b0 &&& (255 : Int32)) <<< ((0 : Int32) &&& 31)))])) _
    refine XS.iand X3.here hx rfl (hb hby d18_52) rfl ?_
    show Steps p.tables e below (T3.setTop (mkF m 53 #[.val (.ref a1), .val (.int (1 : Int32))] [(.int (b1 &&& (255 : Int32))), (.int ((b0 &&& (255 : Int32)) <<< ((0 : Int32) &&& 31)))])) _
    refine st5 _ ?_
    show Steps p.tables e below (T5.setTop (mkF m 56 #[.val (.ref a1), .val (.int (1 : Int32))] [(.int (8 : Int32)), (.int (b1 &&& (255 : Int32))), (.int ((b0 &&& (255 : Int32)) <<< ((0 : Int32) &&& 31)))])) _
    refine XS.ishl X5.here hx rfl (hb hby d18_56) rfl ?_
    show Steps p.tables e below (T5.setTop (mkF m 57 #[.val (.ref a1), .val (.int (1 : Int32))] [(.int ((b1 &&& (255 : Int32)) <<< ((8 : Int32) &&& 31))), (.int ((b0 &&& (255 : Int32)) <<< ((0 : Int32) &&& 31)))])) _
    refine XS.ior X5.here hx rfl (hb hby d18_57) rfl ?_
    show Steps p.tables e below (T5.setTop (mkF m 58 #[.val (.ref a1), .val (.int (1 : Int32))] [(.int (((b0 &&& (255 : Int32)) <<< ((0 : Int32) &&& 31)) ||| ((b1 &&& (255 : Int32)) <<< ((8 : Int32) &&& 31))))])) _
    refine XS.i2c X5.here hx rfl (hb hby d18_58) rfl ?_
    show Steps p.tables e below (T5.setTop (mkF m 59 #[.val (.ref a1), .val (.int (1 : Int32))] [(.int ((((b0 &&& (255 : Int32)) <<< ((0 : Int32) &&& 31)) ||| ((b1 &&& (255 : Int32)) <<< ((8 : Int32) &&& 31))).toUInt32.toUInt16.toUInt32.toInt32))])) _
    exact retN X5 hx (t := .char) Bd.returns (by simp) (hb hby d18_59) hr
  · show Qgc40 Z a1 kk b0 b1 b2 b3 ch h0 n0 _ T5.heap _
    rw [e5]
    exact ⟨N0, rfl, (congrArg (fun z => some (Value.int z)) hD)⟩
theorem ef_gc41 (m : MethodId) (a1 : Addr) : entryFrame m #[(.ref a1), (.int (1 : Int32))] 2 = mkF m 0 #[.val (.ref a1), .val (.int (1 : Int32))] [] := by first | (simp [entryFrame, mkF, argsToLocals, Value.category]; done) | rfl
def Qgc41 (Z : State) (a1 : Addr) (kk : ClassId) (b0 : Int32) (b1 : Int32) (b2 : Int32) (b3 : Int32) (ch : Int32) (h0 : Heap) (n0 : Nat) (v : Option Value) (h : Heap) (L : List Loc) : Prop := Fr n0 L ∧ h = h0 ∧ (v = some (.int ch))
set_option maxRecDepth 65536 in
set_option maxHeartbeats 40000000 in
theorem rmGc41 (l : Launch) (Z : State) (a0 : Array Value) (hw : ∀ d ∈ tables_1, d.before a0 Z = true) (ws : List Jvm.Cond) (a1 : Addr) (kk : ClassId) (b0 : Int32) (b1 : Int32) (b2 : Int32) (b3 : Int32) (ch : Int32) (h0 : Heap) (n0 : Nat) (Z0 : n0 ≤ h0.size) (hSa : Sta Z Z.heap "java/lang/StringUTF16" "$assertionsDisabled" "Z" (.int (1 : Int32))) (hSh : Sta Z Z.heap "java/lang/StringUTF16" "HI_BYTE_SHIFT" "I" (.int (0 : Int32))) (hSl : Sta Z Z.heap "java/lang/StringUTF16" "LO_BYTE_SHIFT" "I" (.int (8 : Int32))) (hO : Old Z n0 h0) (hV : Arv Z h0 a1 kk .byte (4 : Int32) [(.int b0), (.int b1), (.int b2), (.int b3)] (.int (0 : Int32))) (hD : nar .char (own_d16 b2 b3) = ch) :
    MetFree l (⟨"java/lang/StringUTF16", "getChar", "([BI)C"⟩ : MethodName) (head1 (Jvm.Cond.code (⟨"java/lang/StringUTF16", "getChar", "([BI)C"⟩ : MethodName) jdk_52_method_5_code 2 (some .char) :: ws) ({ frames := 0, cells := 0, slots := 0, locals := 0 } : Room)) (fun a U => a = #[(.ref a1), (.int (1 : Int32))] ∧ Z.Warmed39 U.vm ∧ U.heap = h0) (fun _ _ _ _ _ => True) (fun _ U o U' => ∃ v L, o = .returned v ∧ Qgc41 Z a1 kk b0 b1 b2 b3 ch h0 n0 v U'.heap L ∧ FrameEnd U o U' L ({ frames := 0, cells := 0, slots := 0, locals := 0 } : Room).cells ({ frames := 0, cells := 0, slots := 0, locals := 0 } : Room).slots) := by
  refine MetFree.of_bodySF (plainFor_of_name own_pn_6) hisR ?_
  intro p e s m args below meth c s₁ Bd hml0 hP hK
  obtain ⟨rfl, hZ, hh⟩ := hP
  have hx := Bd.exec
  have hby := Bd.bytes
  have hml : c.maxLocals = 2 := hml0
  have hown : s.vm.findClass "java/lang/StringUTF16" = some m.cls := findClass_of_methodNamed Bd.named
  have hnm := (name_of_methodNamed Bd.named Bd.method).1
  have X0 : Stand p l e ({ frames := 0, cells := 0, slots := 0, locals := 0 } : Room) s m #[(.ref a1), (.int (1 : Int32))] below meth c s₁ [] 0 0 := Stand.of_body Bd
  have e0 : s₁.heap = h0 := by rw [← hh, Bd.state]; rfl
  have N0 := Fr.nil n0
  have pre0 : ∀ t, Steps p.tables e below (s₁.setTop (mkF m 0 #[.val (.ref a1), .val (.int (1 : Int32))] [])) t → Steps p.tables e below (s₁.setTop (entryFrame m #[(.ref a1), (.int (1 : Int32))] 2)) t := fun t k => castTop (ef_gc41 m a1) k
  obtain ⟨T1, X1, e1, st1⟩ := getS2 X0 hx hZ hown (host := "") (Or.inl (own_k hw 77 rfl)) Via.refl e0 (hSa.ext hO.2) (g := (mkF m 0 #[.val (.ref a1), .val (.int (1 : Int32))] [])) rfl (hb hby d18_0)
  obtain ⟨cl2, Ar2, q2, S2, M2, H2, G2⟩ := id hV
  have hin2 : ¬ ((2 : Int32) < 0 ∨ cl2.slots.size ≤ ((2 : Int32)).toNatClampNeg) := inb_of S2 ⟨by decide, by decide⟩
  have hat2 : cl2.slots[((2 : Int32)).toNatClampNeg]? = some (.int b2) := H2.at hin2 rfl
  obtain ⟨T3, X3, e3, st3⟩ := getS2 X1 hx hZ hown (host := "") (Or.inl (own_k hw 78 rfl)) Via.refl e1 (hSh.ext hO.2) (g := (mkF m 42 #[.val (.ref a1), .val (.int (3 : Int32))] [(.int (b2 &&& (255 : Int32)))])) rfl (hb hby d18_42)
  obtain ⟨cl4, Ar4, q4, S4, M4, H4, G4⟩ := id hV
  have hin4 : ¬ ((3 : Int32) < 0 ∨ cl4.slots.size ≤ ((3 : Int32)).toNatClampNeg) := inb_of S4 ⟨by decide, by decide⟩
  have hat4 : cl4.slots[((3 : Int32)).toNatClampNeg]? = some (.int b3) := H4.at hin4 rfl
  obtain ⟨T5, X5, e5, st5⟩ := getS2 X3 hx hZ hown (host := "") (Or.inl (own_k hw 79 rfl)) Via.refl e3 (hSl.ext hO.2) (g := (mkF m 53 #[.val (.ref a1), .val (.int (3 : Int32))] [(.int (b3 &&& (255 : Int32))), (.int ((b2 &&& (255 : Int32)) <<< ((0 : Int32) &&& 31)))])) rfl (hb hby d18_53)
  obtain ⟨fs, hr, hrun, hended, hW, hsame⟩ := X5.leave (v := (some (.int (nar .char ((((b2 &&& (255 : Int32)) <<< ((0 : Int32) &&& 31)) ||| ((b3 &&& (255 : Int32)) <<< ((8 : Int32) &&& 31))).toUInt32.toUInt16.toUInt32.toInt32))))) (fun h => by rw [Bd.returns] at h; cases h)
  refine ⟨_, _, pre0 _ ?_, hrun, hended, _, _, rfl, ?_, ⟨_, rfl⟩, hW, hsame.mono (by decide) (by decide)⟩
  · show Steps p.tables e below (s₁.setTop (mkF m 0 #[.val (.ref a1), .val (.int (1 : Int32))] [])) _
    refine st1 _ ?_
    show Steps p.tables e below (T1.setTop (mkF m 3 #[.val (.ref a1), .val (.int (1 : Int32))] [(.int (1 : Int32))])) _
    refine XS.ifYes X1.here hx rfl (pc0 := 3) (pc' := 28) rfl (hb hby d18_3) rfl (by decide) (by decide) (by decide) ?_
    show Steps p.tables e below (T1.setTop (mkF m 28 #[.val (.ref a1), .val (.int (1 : Int32))] [])) _
    refine XS.iloadN X1.here hx rfl (hb hby d18_28) rfl ?_
    show Steps p.tables e below (T1.setTop (mkF m 29 #[.val (.ref a1), .val (.int (1 : Int32))] [(.int (1 : Int32))])) _
    refine XS.iconst X1.here hx rfl (hb hby d18_29) ?_
    show Steps p.tables e below (T1.setTop (mkF m 30 #[.val (.ref a1), .val (.int (1 : Int32))] [(.int (1 : Int32)), (.int (1 : Int32))])) _
    refine XS.ishl X1.here hx rfl (hb hby d18_30) rfl ?_
    show Steps p.tables e below (T1.setTop (mkF m 31 #[.val (.ref a1), .val (.int (1 : Int32))] [(.int (2 : Int32))])) _
    refine XS.istoreN X1.here hx rfl (hb hby d18_31) rfl (l' := #[.val (.ref a1), .val (.int (2 : Int32))]) rfl ?_
    show Steps p.tables e below (T1.setTop (mkF m 32 #[.val (.ref a1), .val (.int (2 : Int32))] [])) _
    refine XS.aloadN X1.here hx rfl (hb hby d18_32) rfl rfl ?_
    show Steps p.tables e below (T1.setTop (mkF m 33 #[.val (.ref a1), .val (.int (2 : Int32))] [(.ref a1)])) _
    refine XS.iloadN X1.here hx rfl (hb hby d18_33) rfl ?_
    show Steps p.tables e below (T1.setTop (mkF m 34 #[.val (.ref a1), .val (.int (2 : Int32))] [(.int (2 : Int32)), (.ref a1)])) _
    refine XS.iinc X1.here hx rfl (hb hby d18_34) rfl (l' := #[.val (.ref a1), .val (.int (3 : Int32))]) rfl ?_
    show Steps p.tables e below (T1.setTop (mkF m 37 #[.val (.ref a1), .val (.int (3 : Int32))] [(.int (2 : Int32)), (.ref a1)])) _
    refine X1.baloadBytes hx (j := (2 : Int32)) (v := (.int b2)) (by rw [e1]; exact Ar2.1) (State.isArrayOf_alike hZ.alike Ar2.2.1) Ar2.2.2 hin2 hat2 (g := (mkF m 37 #[.val (.ref a1), .val (.int (3 : Int32))] [(.int (2 : Int32)), (.ref a1)])) rfl rfl (hb hby d18_37) _ ?_
    show Steps p.tables e below (T1.setTop (mkF m 38 #[.val (.ref a1), .val (.int (3 : Int32))] [(.int b2)])) _
    refine XS.sipush X1.here hx rfl (hb hby d18_38) ?_
    show Steps p.tables e below (T1.setTop (mkF m 41 #[.val (.ref a1), .val (.int (3 : Int32))] [(.int (255 : Int32)), (.int b2)])) _
    refine XS.iand X1.here hx rfl (hb hby d18_41) rfl ?_
    show Steps p.tables e below (T1.setTop (mkF m 42 #[.val (.ref a1), .val (.int (3 : Int32))] [(.int (b2 &&& (255 : Int32)))])) _
    refine st3 _ ?_
    show Steps p.tables e below (T3.setTop (mkF m 45 #[.val (.ref a1), .val (.int (3 : Int32))] [(.int (0 : Int32)), (.int (b2 &&& (255 : Int32)))])) _
    refine XS.ishl X3.here hx rfl (hb hby d18_45) rfl ?_
    show Steps p.tables e below (T3.setTop (mkF m 46 #[.val (.ref a1), .val (.int (3 : Int32))] [(.int ((b2 &&& (255 : Int32)) <<< ((0 : Int32) &&& 31)))])) _
    refine XS.aloadN X3.here hx rfl (hb hby d18_46) rfl rfl ?_
    show Steps p.tables e below (T3.setTop (mkF m 47 #[.val (.ref a1), .val (.int (3 : Int32))] [(.ref a1), (.int ((b2 &&& (255 : Int32)) <<< ((0 : Int32) &&& 31)))])) _
    refine XS.iloadN X3.here hx rfl (hb hby d18_47) rfl ?_
    show Steps p.tables e below (T3.setTop (mkF m 48 #[.val (.ref a1), .val (.int (3 : Int32))] [(.int (3 : Int32)), (.ref a1), (.int ((b2 &&& (255 : Int32)) <<< ((0 : Int32) &&& 31)))])) _
    refine X3.baloadBytes hx (j := (3 : Int32)) (v := (.int b3)) (by rw [e3]; exact Ar4.1) (State.isArrayOf_alike hZ.alike Ar4.2.1) Ar4.2.2 hin4 hat4 (g := (mkF m 48 #[.val (.ref a1), .val (.int (3 : Int32))] [(.int (3 : Int32)), (.ref a1), (.int ((b2 &&& (255 : Int32)) <<< ((0 : Int32) &&& 31)))])) rfl rfl (hb hby d18_48) _ ?_
    show Steps p.tables e below (T3.setTop (mkF m 49 #[.val (.ref a1), .val (.int (3 : Int32))] [(.int b3), (.int ((b2 &&& (255 : Int32)) <<< ((0 : Int32) &&& 31)))])) _
    refine XS.sipush X3.here hx rfl (hb hby d18_49) ?_
    show Steps p.tables e below (T3.setTop (mkF m 52 #[.val (.ref a1), .val (.int (3 : Int32))] [(.int (255 : Int32)), (.int b3), (.int ((b2 &&& (255 : Int32)) <<< ((0 : Int32) &&& 31)))])) _
    refine XS.iand X3.here hx rfl (hb hby d18_52) rfl ?_
    show Steps p.tables e below (T3.setTop (mkF m 53 #[.val (.ref a1), .val (.int (3 : Int32))] [(.int (b3 &&& (255 : Int32))), (.int ((b2 &&& (255 : Int32)) <<< ((0 : Int32) &&& 31)))])) _
    refine st5 _ ?_
    show Steps p.tables e below (T5.setTop (mkF m 56 #[.val (.ref a1), .val (.int (3 : Int32))] [(.int (8 : Int32)), (.int (b3 &&& (255 : Int32))), (.int ((b2 &&& (255 : Int32)) <<< ((0 : Int32) &&& 31)))])) _
    refine XS.ishl X5.here hx rfl (hb hby d18_56) rfl ?_
    show Steps p.tables e below (T5.setTop (mkF m 57 #[.val (.ref a1), .val (.int (3 : Int32))] [(.int ((b3 &&& (255 : Int32)) <<< ((8 : Int32) &&& 31))), (.int ((b2 &&& (255 : Int32)) <<< ((0 : Int32) &&& 31)))])) _
    refine XS.ior X5.here hx rfl (hb hby d18_57) rfl ?_
    show Steps p.tables e below (T5.setTop (mkF m 58 #[.val (.ref a1), .val (.int (3 : Int32))] [(.int (((b2 &&& (255 : Int32)) <<< ((0 : Int32) &&& 31)) ||| ((b3 &&& (255 : Int32)) <<< ((8 : Int32) &&& 31))))])) _
    refine XS.i2c X5.here hx rfl (hb hby d18_58) rfl ?_
    show Steps p.tables e below (T5.setTop (mkF m 59 #[.val (.ref a1), .val (.int (3 : Int32))] [(.int ((((b2 &&& (255 : Int32)) <<< ((0 : Int32) &&& 31)) ||| ((b3 &&& (255 : Int32)) <<< ((8 : Int32) &&& 31))).toUInt32.toUInt16.toUInt32.toInt32))])) _
    exact retN X5 hx (t := .char) Bd.returns (by simp) (hb hby d18_59) hr
  · show Qgc41 Z a1 kk b0 b1 b2 b3 ch h0 n0 _ T5.heap _
    rw [e5]
    exact ⟨N0, rfl, (congrArg (fun z => some (Value.int z)) hD)⟩
theorem d22_0 : decode jdk_52_method_83_code 0 = .ok (.iload_n 1, 1) := by decide +kernel
theorem d22_1 : decode jdk_52_method_83_code 1 = .ok (.aload_n 0, 1) := by decide +kernel
theorem d22_2 : decode jdk_52_method_83_code 2 = .ok (.invokestatic 67, 3) := by decide +kernel
theorem own_pd_4 : parseMethodDescriptor "(I[B)V" = some ⟨[.int, (.array .byte)], none⟩ := by decide +kernel
theorem d22_5 : decode jdk_52_method_83_code 5 = .ok (.aload_n 0, 1) := by decide +kernel
theorem d22_6 : decode jdk_52_method_83_code 6 = .ok (.iload_n 1, 1) := by decide +kernel
theorem d22_7 : decode jdk_52_method_83_code 7 = .ok (.invokestatic 71, 3) := by decide +kernel
theorem own_pd_5 : parseMethodDescriptor "([BI)C" = some ⟨[(.array .byte), .int], some .char⟩ := by decide +kernel
theorem d22_10 : decode jdk_52_method_83_code 10 = .ok (.ireturn, 1) := by decide +kernel
theorem ef_ua20 (m : MethodId) (a1 : Addr) : entryFrame m #[(.ref a1), (.int (0 : Int32))] 2 = mkF m 0 #[.val (.ref a1), .val (.int (0 : Int32))] [] := by first | (simp [entryFrame, mkF, argsToLocals, Value.category]; done) | rfl
def Qua20 (Z : State) (a1 : Addr) (kk : ClassId) (b0 : Int32) (b1 : Int32) (ch : Int32) (fv : Value) (h0 : Heap) (n0 : Nat) (v : Option Value) (h : Heap) (L : List Loc) : Prop := Fr n0 L ∧ h = h0 ∧ (v = some (.int ch))
set_option maxRecDepth 65536 in
set_option maxHeartbeats 40000000 in
theorem rmUa20 (l : Launch) (Z : State) (a0 : Array Value) (hw : ∀ d ∈ tables_1, d.before a0 Z = true) (ws : List Jvm.Cond) (a1 : Addr) (kk : ClassId) (b0 : Int32) (b1 : Int32) (ch : Int32) (fv : Value) (h0 : Heap) (n0 : Nat) (Z0 : n0 ≤ h0.size) (hSa : Sta Z Z.heap "java/lang/StringUTF16" "$assertionsDisabled" "Z" (.int (1 : Int32))) (hSh : Sta Z Z.heap "java/lang/StringUTF16" "HI_BYTE_SHIFT" "I" (.int (0 : Int32))) (hSl : Sta Z Z.heap "java/lang/StringUTF16" "LO_BYTE_SHIFT" "I" (.int (8 : Int32))) (hSf : Sta Z Z.heap "jdk/internal/util/Preconditions" "SIOOBE_FORMATTER" "Ljava/util/function/BiFunction;" fv) (hfr : fv.isRef = true) (hO : Old Z n0 h0) (hV : Arv Z h0 a1 kk .byte (2 : Int32) [(.int b0), (.int b1)] (.int (0 : Int32))) (hH : own_H ch) (hD : nar .char (own_d16 b0 b1) = ch) :
    MetFree l (⟨"java/lang/StringUTF16", "charAt", "([BI)C"⟩ : MethodName) (head1 (Jvm.Cond.code (⟨"java/lang/StringUTF16", "charAt", "([BI)C"⟩ : MethodName) jdk_52_method_83_code 2 (some .char) :: ws) ({ frames := 3, cells := 0, slots := 0, locals := 40 } : Room)) (fun a U => a = #[(.ref a1), (.int (0 : Int32))] ∧ Z.Warmed39 U.vm ∧ U.heap = h0) (fun _ _ _ _ _ => True) (fun _ U o U' => ∃ v L, o = .returned v ∧ Qua20 Z a1 kk b0 b1 ch fv h0 n0 v U'.heap L ∧ FrameEnd U o U' L ({ frames := 3, cells := 0, slots := 0, locals := 40 } : Room).cells ({ frames := 3, cells := 0, slots := 0, locals := 40 } : Room).slots) := by
  refine MetFree.of_bodySF (plainFor_of_name own_pn_6) hisR ?_
  intro p e s m args below meth c s₁ Bd hml0 hP hK
  obtain ⟨rfl, hZ, hh⟩ := hP
  have hx := Bd.exec
  have hby := Bd.bytes
  have hml : c.maxLocals = 2 := hml0
  have hown : s.vm.findClass "java/lang/StringUTF16" = some m.cls := findClass_of_methodNamed Bd.named
  have hnm := (name_of_methodNamed Bd.named Bd.method).1
  have X0 : Stand p l e ({ frames := 3, cells := 0, slots := 0, locals := 40 } : Room) s m #[(.ref a1), (.int (0 : Int32))] below meth c s₁ [] 0 0 := Stand.of_body Bd
  have e0 : s₁.heap = h0 := by rw [← hh, Bd.state]; rfl
  have N0 := Fr.nil n0
  have pre0 : ∀ t, Steps p.tables e below (s₁.setTop (mkF m 0 #[.val (.ref a1), .val (.int (0 : Int32))] [])) t → Steps p.tables e below (s₁.setTop (entryFrame m #[(.ref a1), (.int (0 : Int32))] 2)) t := fun t k => castTop (ef_ua20 m a1) k
  obtain ⟨_, _, ⟨T1, L1, k1, n1⟩, -, X1, ⟨Lc1, hQ1, l1, y1, z1⟩, st1⟩ := Jvm.LawKit.callS X0 hx (y := (⟨"java/lang/StringUTF16", "checkIndex", "(I[B)V"⟩ : MethodName)) hown (mvT hZ (own_k hw 100 rfl)) (mvT hZ (own_k hw 101 rfl)) (mvT hZ (own_k hw 22 rfl)) (mvT hZ (own_k hw 102 rfl)) (by decide) (backOf (W := 0) (rmUc20 l Z a0 hw [] a1 kk b0 b1 fv h0 n0 Z0 hSf (hfr) hO hV) hZ (own_k hw 102 rfl) (own_k hw 22 rfl) (by decide) (by decide)) (g := (mkF m 2 #[.val (.ref a1), .val (.int (0 : Int32))] [(.ref a1), (.int (0 : Int32))])) rfl (by rw [hml]; rfl) (argsL := [(.int (0 : Int32)), (.ref a1)]) (rest := []) (lenOf own_pd_4 rfl) rfl (by show 2 * 0 + _ ≤ _; exact Nat.le_of_eq rfl) (hb hby d22_2) (fun _ _ => ⟨rfl, e0, (by decide : 0 + 0 ≤ _), (by decide : 0 + 0 ≤ _)⟩)
  dsimp only [Pt.U, Pt.locs, Pt.cells, Pt.slots] at X1 l1 y1 z1 st1 hQ1
  subst l1
  subst y1 z1
  obtain ⟨Nq1, eh1, hv1⟩ := hQ1
  have N1 := Fr.app N0 Nq1
  subst hv1
  obtain ⟨_, _, ⟨T2, L2, k2, n2⟩, -, X2, ⟨Lc2, hQ2, l2, y2, z2⟩, st2⟩ := Jvm.LawKit.callS X1 hx (y := (⟨"java/lang/StringUTF16", "getChar", "([BI)C"⟩ : MethodName)) hown (mvT hZ (own_k hw 80 rfl)) (mvT hZ (own_k hw 81 rfl)) (mvT hZ (own_k hw 22 rfl)) (mvT hZ (own_k hw 82 rfl)) (by decide) (backOf (W := 0) (rmGc20 l Z a0 hw [] a1 kk b0 b1 ch h0 n0 Z0 hSa hSh hSl hO hV (hD)) hZ (own_k hw 82 rfl) (own_k hw 22 rfl) (by decide) (by decide)) (g := (mkF m 7 #[.val (.ref a1), .val (.int (0 : Int32))] [(.int (0 : Int32)), (.ref a1)])) rfl (by rw [hml]; rfl) (argsL := [(.ref a1), (.int (0 : Int32))]) (rest := []) (lenOf own_pd_5 rfl) rfl (by show 2 * 0 + _ ≤ _; exact Nat.le_of_eq rfl) (hb hby d22_7) (fun _ _ => ⟨rfl, eh1, (by decide : 0 + 0 ≤ _), (by decide : 0 + 0 ≤ _)⟩)
  dsimp only [Pt.U, Pt.locs, Pt.cells, Pt.slots] at X2 l2 y2 z2 st2 hQ2
  subst l2
  subst y2 z2
  obtain ⟨Nq2, eh2, hv2⟩ := hQ2
  have N2 := Fr.app N1 Nq2
  subst hv2
  obtain ⟨fs, hr, hrun, hended, hW, hsame⟩ := X2.leave (v := (some (.int (nar .char ch)))) (fun h => by rw [Bd.returns] at h; cases h)
  refine ⟨_, _, pre0 _ ?_, hrun, hended, _, _, rfl, ?_, ⟨_, rfl⟩, hW, hsame.mono (by decide) (by decide)⟩
  · show Steps p.tables e below (s₁.setTop (mkF m 0 #[.val (.ref a1), .val (.int (0 : Int32))] [])) _
    refine XS.iloadN X0.here hx rfl (hb hby d22_0) rfl ?_
    show Steps p.tables e below (s₁.setTop (mkF m 1 #[.val (.ref a1), .val (.int (0 : Int32))] [(.int (0 : Int32))])) _
    refine XS.aloadN X0.here hx rfl (hb hby d22_1) rfl rfl ?_
    show Steps p.tables e below (s₁.setTop (mkF m 2 #[.val (.ref a1), .val (.int (0 : Int32))] [(.ref a1), (.int (0 : Int32))])) _
    refine st1 _ ?_
    show Steps p.tables e below (T1.setTop (mkF m 5 #[.val (.ref a1), .val (.int (0 : Int32))] [])) _
    refine XS.aloadN X1.here hx rfl (hb hby d22_5) rfl rfl ?_
    show Steps p.tables e below (T1.setTop (mkF m 6 #[.val (.ref a1), .val (.int (0 : Int32))] [(.ref a1)])) _
    refine XS.iloadN X1.here hx rfl (hb hby d22_6) rfl ?_
    show Steps p.tables e below (T1.setTop (mkF m 7 #[.val (.ref a1), .val (.int (0 : Int32))] [(.int (0 : Int32)), (.ref a1)])) _
    refine st2 _ ?_
    show Steps p.tables e below (T2.setTop (mkF m 10 #[.val (.ref a1), .val (.int (0 : Int32))] [(.int ch)])) _
    exact retN X2 hx (t := .char) Bd.returns (by simp) (hb hby d22_10) hr
  · show Qua20 Z a1 kk b0 b1 ch fv h0 n0 _ T2.heap _
    rw [eh2]
    exact ⟨N2, rfl, (congrArg (fun z => some (Value.int z)) (own_narE hH))⟩
theorem ef_ua40 (m : MethodId) (a1 : Addr) : entryFrame m #[(.ref a1), (.int (0 : Int32))] 2 = mkF m 0 #[.val (.ref a1), .val (.int (0 : Int32))] [] := by first | (simp [entryFrame, mkF, argsToLocals, Value.category]; done) | rfl
def Qua40 (Z : State) (a1 : Addr) (kk : ClassId) (b0 : Int32) (b1 : Int32) (b2 : Int32) (b3 : Int32) (ch : Int32) (fv : Value) (h0 : Heap) (n0 : Nat) (v : Option Value) (h : Heap) (L : List Loc) : Prop := Fr n0 L ∧ h = h0 ∧ (v = some (.int ch))
set_option maxRecDepth 65536 in
set_option maxHeartbeats 40000000 in
theorem rmUa40 (l : Launch) (Z : State) (a0 : Array Value) (hw : ∀ d ∈ tables_1, d.before a0 Z = true) (ws : List Jvm.Cond) (a1 : Addr) (kk : ClassId) (b0 : Int32) (b1 : Int32) (b2 : Int32) (b3 : Int32) (ch : Int32) (fv : Value) (h0 : Heap) (n0 : Nat) (Z0 : n0 ≤ h0.size) (hSa : Sta Z Z.heap "java/lang/StringUTF16" "$assertionsDisabled" "Z" (.int (1 : Int32))) (hSh : Sta Z Z.heap "java/lang/StringUTF16" "HI_BYTE_SHIFT" "I" (.int (0 : Int32))) (hSl : Sta Z Z.heap "java/lang/StringUTF16" "LO_BYTE_SHIFT" "I" (.int (8 : Int32))) (hSf : Sta Z Z.heap "jdk/internal/util/Preconditions" "SIOOBE_FORMATTER" "Ljava/util/function/BiFunction;" fv) (hfr : fv.isRef = true) (hO : Old Z n0 h0) (hV : Arv Z h0 a1 kk .byte (4 : Int32) [(.int b0), (.int b1), (.int b2), (.int b3)] (.int (0 : Int32))) (hH : own_H ch) (hD : nar .char (own_d16 b0 b1) = ch) :
    MetFree l (⟨"java/lang/StringUTF16", "charAt", "([BI)C"⟩ : MethodName) (head1 (Jvm.Cond.code (⟨"java/lang/StringUTF16", "charAt", "([BI)C"⟩ : MethodName) jdk_52_method_83_code 2 (some .char) :: ws) ({ frames := 3, cells := 0, slots := 0, locals := 40 } : Room)) (fun a U => a = #[(.ref a1), (.int (0 : Int32))] ∧ Z.Warmed39 U.vm ∧ U.heap = h0) (fun _ _ _ _ _ => True) (fun _ U o U' => ∃ v L, o = .returned v ∧ Qua40 Z a1 kk b0 b1 b2 b3 ch fv h0 n0 v U'.heap L ∧ FrameEnd U o U' L ({ frames := 3, cells := 0, slots := 0, locals := 40 } : Room).cells ({ frames := 3, cells := 0, slots := 0, locals := 40 } : Room).slots) := by
  refine MetFree.of_bodySF (plainFor_of_name own_pn_6) hisR ?_
  intro p e s m args below meth c s₁ Bd hml0 hP hK
  obtain ⟨rfl, hZ, hh⟩ := hP
  have hx := Bd.exec
  have hby := Bd.bytes
  have hml : c.maxLocals = 2 := hml0
  have hown : s.vm.findClass "java/lang/StringUTF16" = some m.cls := findClass_of_methodNamed Bd.named
  have hnm := (name_of_methodNamed Bd.named Bd.method).1
  have X0 : Stand p l e ({ frames := 3, cells := 0, slots := 0, locals := 40 } : Room) s m #[(.ref a1), (.int (0 : Int32))] below meth c s₁ [] 0 0 := Stand.of_body Bd
  have e0 : s₁.heap = h0 := by rw [← hh, Bd.state]; rfl
  have N0 := Fr.nil n0
  have pre0 : ∀ t, Steps p.tables e below (s₁.setTop (mkF m 0 #[.val (.ref a1), .val (.int (0 : Int32))] [])) t → Steps p.tables e below (s₁.setTop (entryFrame m #[(.ref a1), (.int (0 : Int32))] 2)) t := fun t k => castTop (ef_ua40 m a1) k
  obtain ⟨_, _, ⟨T1, L1, k1, n1⟩, -, X1, ⟨Lc1, hQ1, l1, y1, z1⟩, st1⟩ := Jvm.LawKit.callS X0 hx (y := (⟨"java/lang/StringUTF16", "checkIndex", "(I[B)V"⟩ : MethodName)) hown (mvT hZ (own_k hw 100 rfl)) (mvT hZ (own_k hw 101 rfl)) (mvT hZ (own_k hw 22 rfl)) (mvT hZ (own_k hw 102 rfl)) (by decide) (backOf (W := 0) (rmUc40 l Z a0 hw [] a1 kk b0 b1 b2 b3 fv h0 n0 Z0 hSf (hfr) hO hV) hZ (own_k hw 102 rfl) (own_k hw 22 rfl) (by decide) (by decide)) (g := (mkF m 2 #[.val (.ref a1), .val (.int (0 : Int32))] [(.ref a1), (.int (0 : Int32))])) rfl (by rw [hml]; rfl) (argsL := [(.int (0 : Int32)), (.ref a1)]) (rest := []) (lenOf own_pd_4 rfl) rfl (by show 2 * 0 + _ ≤ _; exact Nat.le_of_eq rfl) (hb hby d22_2) (fun _ _ => ⟨rfl, e0, (by decide : 0 + 0 ≤ _), (by decide : 0 + 0 ≤ _)⟩)
  dsimp only [Pt.U, Pt.locs, Pt.cells, Pt.slots] at X1 l1 y1 z1 st1 hQ1
  subst l1
  subst y1 z1
  obtain ⟨Nq1, eh1, hv1⟩ := hQ1
  have N1 := Fr.app N0 Nq1
  subst hv1
  obtain ⟨_, _, ⟨T2, L2, k2, n2⟩, -, X2, ⟨Lc2, hQ2, l2, y2, z2⟩, st2⟩ := Jvm.LawKit.callS X1 hx (y := (⟨"java/lang/StringUTF16", "getChar", "([BI)C"⟩ : MethodName)) hown (mvT hZ (own_k hw 80 rfl)) (mvT hZ (own_k hw 81 rfl)) (mvT hZ (own_k hw 22 rfl)) (mvT hZ (own_k hw 82 rfl)) (by decide) (backOf (W := 0) (rmGc40 l Z a0 hw [] a1 kk b0 b1 b2 b3 ch h0 n0 Z0 hSa hSh hSl hO hV (hD)) hZ (own_k hw 82 rfl) (own_k hw 22 rfl) (by decide) (by decide)) (g := (mkF m 7 #[.val (.ref a1), .val (.int (0 : Int32))] [(.int (0 : Int32)), (.ref a1)])) rfl (by rw [hml]; rfl) (argsL := [(.ref a1), (.int (0 : Int32))]) (rest := []) (lenOf own_pd_5 rfl) rfl (by show 2 * 0 + _ ≤ _; exact Nat.le_of_eq rfl) (hb hby d22_7) (fun _ _ => ⟨rfl, eh1, (by decide : 0 + 0 ≤ _), (by decide : 0 + 0 ≤ _)⟩)
  dsimp only [Pt.U, Pt.locs, Pt.cells, Pt.slots] at X2 l2 y2 z2 st2 hQ2
  subst l2
  subst y2 z2
  obtain ⟨Nq2, eh2, hv2⟩ := hQ2
  have N2 := Fr.app N1 Nq2
  subst hv2
  obtain ⟨fs, hr, hrun, hended, hW, hsame⟩ := X2.leave (v := (some (.int (nar .char ch)))) (fun h => by rw [Bd.returns] at h; cases h)
  refine ⟨_, _, pre0 _ ?_, hrun, hended, _, _, rfl, ?_, ⟨_, rfl⟩, hW, hsame.mono (by decide) (by decide)⟩
  · show Steps p.tables e below (s₁.setTop (mkF m 0 #[.val (.ref a1), .val (.int (0 : Int32))] [])) _
    refine XS.iloadN X0.here hx rfl (hb hby d22_0) rfl ?_
    show Steps p.tables e below (s₁.setTop (mkF m 1 #[.val (.ref a1), .val (.int (0 : Int32))] [(.int (0 : Int32))])) _
    refine XS.aloadN X0.here hx rfl (hb hby d22_1) rfl rfl ?_
    show Steps p.tables e below (s₁.setTop (mkF m 2 #[.val (.ref a1), .val (.int (0 : Int32))] [(.ref a1), (.int (0 : Int32))])) _
    refine st1 _ ?_
    show Steps p.tables e below (T1.setTop (mkF m 5 #[.val (.ref a1), .val (.int (0 : Int32))] [])) _
    refine XS.aloadN X1.here hx rfl (hb hby d22_5) rfl rfl ?_
    show Steps p.tables e below (T1.setTop (mkF m 6 #[.val (.ref a1), .val (.int (0 : Int32))] [(.ref a1)])) _
    refine XS.iloadN X1.here hx rfl (hb hby d22_6) rfl ?_
    show Steps p.tables e below (T1.setTop (mkF m 7 #[.val (.ref a1), .val (.int (0 : Int32))] [(.int (0 : Int32)), (.ref a1)])) _
    refine st2 _ ?_
    show Steps p.tables e below (T2.setTop (mkF m 10 #[.val (.ref a1), .val (.int (0 : Int32))] [(.int ch)])) _
    exact retN X2 hx (t := .char) Bd.returns (by simp) (hb hby d22_10) hr
  · show Qua40 Z a1 kk b0 b1 b2 b3 ch fv h0 n0 _ T2.heap _
    rw [eh2]
    exact ⟨N2, rfl, (congrArg (fun z => some (Value.int z)) (own_narE hH))⟩
theorem ef_ua41 (m : MethodId) (a1 : Addr) : entryFrame m #[(.ref a1), (.int (1 : Int32))] 2 = mkF m 0 #[.val (.ref a1), .val (.int (1 : Int32))] [] := by first | (simp [entryFrame, mkF, argsToLocals, Value.category]; done) | rfl
def Qua41 (Z : State) (a1 : Addr) (kk : ClassId) (b0 : Int32) (b1 : Int32) (b2 : Int32) (b3 : Int32) (ch : Int32) (fv : Value) (h0 : Heap) (n0 : Nat) (v : Option Value) (h : Heap) (L : List Loc) : Prop := Fr n0 L ∧ h = h0 ∧ (v = some (.int ch))
set_option maxRecDepth 65536 in
set_option maxHeartbeats 40000000 in
theorem rmUa41 (l : Launch) (Z : State) (a0 : Array Value) (hw : ∀ d ∈ tables_1, d.before a0 Z = true) (ws : List Jvm.Cond) (a1 : Addr) (kk : ClassId) (b0 : Int32) (b1 : Int32) (b2 : Int32) (b3 : Int32) (ch : Int32) (fv : Value) (h0 : Heap) (n0 : Nat) (Z0 : n0 ≤ h0.size) (hSa : Sta Z Z.heap "java/lang/StringUTF16" "$assertionsDisabled" "Z" (.int (1 : Int32))) (hSh : Sta Z Z.heap "java/lang/StringUTF16" "HI_BYTE_SHIFT" "I" (.int (0 : Int32))) (hSl : Sta Z Z.heap "java/lang/StringUTF16" "LO_BYTE_SHIFT" "I" (.int (8 : Int32))) (hSf : Sta Z Z.heap "jdk/internal/util/Preconditions" "SIOOBE_FORMATTER" "Ljava/util/function/BiFunction;" fv) (hfr : fv.isRef = true) (hO : Old Z n0 h0) (hV : Arv Z h0 a1 kk .byte (4 : Int32) [(.int b0), (.int b1), (.int b2), (.int b3)] (.int (0 : Int32))) (hH : own_H ch) (hD : nar .char (own_d16 b2 b3) = ch) :
    MetFree l (⟨"java/lang/StringUTF16", "charAt", "([BI)C"⟩ : MethodName) (head1 (Jvm.Cond.code (⟨"java/lang/StringUTF16", "charAt", "([BI)C"⟩ : MethodName) jdk_52_method_83_code 2 (some .char) :: ws) ({ frames := 3, cells := 0, slots := 0, locals := 40 } : Room)) (fun a U => a = #[(.ref a1), (.int (1 : Int32))] ∧ Z.Warmed39 U.vm ∧ U.heap = h0) (fun _ _ _ _ _ => True) (fun _ U o U' => ∃ v L, o = .returned v ∧ Qua41 Z a1 kk b0 b1 b2 b3 ch fv h0 n0 v U'.heap L ∧ FrameEnd U o U' L ({ frames := 3, cells := 0, slots := 0, locals := 40 } : Room).cells ({ frames := 3, cells := 0, slots := 0, locals := 40 } : Room).slots) := by
  refine MetFree.of_bodySF (plainFor_of_name own_pn_6) hisR ?_
  intro p e s m args below meth c s₁ Bd hml0 hP hK
  obtain ⟨rfl, hZ, hh⟩ := hP
  have hx := Bd.exec
  have hby := Bd.bytes
  have hml : c.maxLocals = 2 := hml0
  have hown : s.vm.findClass "java/lang/StringUTF16" = some m.cls := findClass_of_methodNamed Bd.named
  have hnm := (name_of_methodNamed Bd.named Bd.method).1
  have X0 : Stand p l e ({ frames := 3, cells := 0, slots := 0, locals := 40 } : Room) s m #[(.ref a1), (.int (1 : Int32))] below meth c s₁ [] 0 0 := Stand.of_body Bd
  have e0 : s₁.heap = h0 := by rw [← hh, Bd.state]; rfl
  have N0 := Fr.nil n0
  have pre0 : ∀ t, Steps p.tables e below (s₁.setTop (mkF m 0 #[.val (.ref a1), .val (.int (1 : Int32))] [])) t → Steps p.tables e below (s₁.setTop (entryFrame m #[(.ref a1), (.int (1 : Int32))] 2)) t := fun t k => castTop (ef_ua41 m a1) k
  obtain ⟨_, _, ⟨T1, L1, k1, n1⟩, -, X1, ⟨Lc1, hQ1, l1, y1, z1⟩, st1⟩ := Jvm.LawKit.callS X0 hx (y := (⟨"java/lang/StringUTF16", "checkIndex", "(I[B)V"⟩ : MethodName)) hown (mvT hZ (own_k hw 100 rfl)) (mvT hZ (own_k hw 101 rfl)) (mvT hZ (own_k hw 22 rfl)) (mvT hZ (own_k hw 102 rfl)) (by decide) (backOf (W := 0) (rmUc41 l Z a0 hw [] a1 kk b0 b1 b2 b3 fv h0 n0 Z0 hSf (hfr) hO hV) hZ (own_k hw 102 rfl) (own_k hw 22 rfl) (by decide) (by decide)) (g := (mkF m 2 #[.val (.ref a1), .val (.int (1 : Int32))] [(.ref a1), (.int (1 : Int32))])) rfl (by rw [hml]; rfl) (argsL := [(.int (1 : Int32)), (.ref a1)]) (rest := []) (lenOf own_pd_4 rfl) rfl (by show 2 * 0 + _ ≤ _; exact Nat.le_of_eq rfl) (hb hby d22_2) (fun _ _ => ⟨rfl, e0, (by decide : 0 + 0 ≤ _), (by decide : 0 + 0 ≤ _)⟩)
  dsimp only [Pt.U, Pt.locs, Pt.cells, Pt.slots] at X1 l1 y1 z1 st1 hQ1
  subst l1
  subst y1 z1
  obtain ⟨Nq1, eh1, hv1⟩ := hQ1
  have N1 := Fr.app N0 Nq1
  subst hv1
  obtain ⟨_, _, ⟨T2, L2, k2, n2⟩, -, X2, ⟨Lc2, hQ2, l2, y2, z2⟩, st2⟩ := Jvm.LawKit.callS X1 hx (y := (⟨"java/lang/StringUTF16", "getChar", "([BI)C"⟩ : MethodName)) hown (mvT hZ (own_k hw 80 rfl)) (mvT hZ (own_k hw 81 rfl)) (mvT hZ (own_k hw 22 rfl)) (mvT hZ (own_k hw 82 rfl)) (by decide) (backOf (W := 0) (rmGc41 l Z a0 hw [] a1 kk b0 b1 b2 b3 ch h0 n0 Z0 hSa hSh hSl hO hV (hD)) hZ (own_k hw 82 rfl) (own_k hw 22 rfl) (by decide) (by decide)) (g := (mkF m 7 #[.val (.ref a1), .val (.int (1 : Int32))] [(.int (1 : Int32)), (.ref a1)])) rfl (by rw [hml]; rfl) (argsL := [(.ref a1), (.int (1 : Int32))]) (rest := []) (lenOf own_pd_5 rfl) rfl (by show 2 * 0 + _ ≤ _; exact Nat.le_of_eq rfl) (hb hby d22_7) (fun _ _ => ⟨rfl, eh1, (by decide : 0 + 0 ≤ _), (by decide : 0 + 0 ≤ _)⟩)
  dsimp only [Pt.U, Pt.locs, Pt.cells, Pt.slots] at X2 l2 y2 z2 st2 hQ2
  subst l2
  subst y2 z2
  obtain ⟨Nq2, eh2, hv2⟩ := hQ2
  have N2 := Fr.app N1 Nq2
  subst hv2
  obtain ⟨fs, hr, hrun, hended, hW, hsame⟩ := X2.leave (v := (some (.int (nar .char ch)))) (fun h => by rw [Bd.returns] at h; cases h)
  refine ⟨_, _, pre0 _ ?_, hrun, hended, _, _, rfl, ?_, ⟨_, rfl⟩, hW, hsame.mono (by decide) (by decide)⟩
  · show Steps p.tables e below (s₁.setTop (mkF m 0 #[.val (.ref a1), .val (.int (1 : Int32))] [])) _
    refine XS.iloadN X0.here hx rfl (hb hby d22_0) rfl ?_
    show Steps p.tables e below (s₁.setTop (mkF m 1 #[.val (.ref a1), .val (.int (1 : Int32))] [(.int (1 : Int32))])) _
    refine XS.aloadN X0.here hx rfl (hb hby d22_1) rfl rfl ?_
    show Steps p.tables e below (s₁.setTop (mkF m 2 #[.val (.ref a1), .val (.int (1 : Int32))] [(.ref a1), (.int (1 : Int32))])) _
    refine st1 _ ?_
    show Steps p.tables e below (T1.setTop (mkF m 5 #[.val (.ref a1), .val (.int (1 : Int32))] [])) _
    refine XS.aloadN X1.here hx rfl (hb hby d22_5) rfl rfl ?_
    show Steps p.tables e below (T1.setTop (mkF m 6 #[.val (.ref a1), .val (.int (1 : Int32))] [(.ref a1)])) _
    refine XS.iloadN X1.here hx rfl (hb hby d22_6) rfl ?_
    show Steps p.tables e below (T1.setTop (mkF m 7 #[.val (.ref a1), .val (.int (1 : Int32))] [(.int (1 : Int32)), (.ref a1)])) _
    refine st2 _ ?_
    show Steps p.tables e below (T2.setTop (mkF m 10 #[.val (.ref a1), .val (.int (1 : Int32))] [(.int ch)])) _
    exact retN X2 hx (t := .char) Bd.returns (by simp) (hb hby d22_10) hr
  · show Qua41 Z a1 kk b0 b1 b2 b3 ch fv h0 n0 _ T2.heap _
    rw [eh2]
    exact ⟨N2, rfl, (congrArg (fun z => some (Value.int z)) (own_narE hH))⟩
theorem own_pn_7 : plainName "java/lang/StringLatin1" = true := by first | (simp [plainName, overriddenIn]; done) | decide +kernel
theorem d29_0 : decode jdk_43_method_2_code 0 = .ok (.iload_n 1, 1) := by decide +kernel
theorem d29_1 : decode jdk_43_method_2_code 1 = .ok (.aload_n 0, 1) := by decide +kernel
theorem d29_2 : decode jdk_43_method_2_code 2 = .ok (.arraylength, 1) := by decide +kernel
theorem d29_3 : decode jdk_43_method_2_code 3 = .ok (.invokestatic 9, 3) := by decide +kernel
theorem d29_6 : decode jdk_43_method_2_code 6 = .ok (.aload_n 0, 1) := by decide +kernel
theorem d29_7 : decode jdk_43_method_2_code 7 = .ok (.iload_n 1, 1) := by decide +kernel
theorem d29_8 : decode jdk_43_method_2_code 8 = .ok (.baload, 1) := by decide +kernel
theorem d29_9 : decode jdk_43_method_2_code 9 = .ok (.sipush 255, 3) := by decide +kernel
theorem d29_12 : decode jdk_43_method_2_code 12 = .ok (.iand, 1) := by decide +kernel
theorem d29_13 : decode jdk_43_method_2_code 13 = .ok (.i2c, 1) := by decide +kernel
theorem d29_14 : decode jdk_43_method_2_code 14 = .ok (.ireturn, 1) := by decide +kernel
theorem ef_la10 (m : MethodId) (a1 : Addr) : entryFrame m #[(.ref a1), (.int (0 : Int32))] 2 = mkF m 0 #[.val (.ref a1), .val (.int (0 : Int32))] [] := by first | (simp [entryFrame, mkF, argsToLocals, Value.category]; done) | rfl
def Qla10 (Z : State) (a1 : Addr) (kk : ClassId) (b0 : Int32) (ch : Int32) (fv : Value) (h0 : Heap) (n0 : Nat) (v : Option Value) (h : Heap) (L : List Loc) : Prop := Fr n0 L ∧ h = h0 ∧ (v = some (.int ch))
set_option maxRecDepth 65536 in
set_option maxHeartbeats 40000000 in
theorem rmLa10 (l : Launch) (Z : State) (a0 : Array Value) (hw : ∀ d ∈ tables_1, d.before a0 Z = true) (ws : List Jvm.Cond) (a1 : Addr) (kk : ClassId) (b0 : Int32) (ch : Int32) (fv : Value) (h0 : Heap) (n0 : Nat) (Z0 : n0 ≤ h0.size) (hSf : Sta Z Z.heap "jdk/internal/util/Preconditions" "SIOOBE_FORMATTER" "Ljava/util/function/BiFunction;" fv) (hfr : fv.isRef = true) (hO : Old Z n0 h0) (hV : Arv Z h0 a1 kk .byte (1 : Int32) [(.int b0)] (.int (0 : Int32))) (hD : nar .char (own_d8 b0) = ch) :
    MetFree l (⟨"java/lang/StringLatin1", "charAt", "([BI)C"⟩ : MethodName) (head1 (Jvm.Cond.code (⟨"java/lang/StringLatin1", "charAt", "([BI)C"⟩ : MethodName) jdk_43_method_2_code 2 (some .char) :: ws) ({ frames := 2, cells := 0, slots := 0, locals := 27 } : Room)) (fun a U => a = #[(.ref a1), (.int (0 : Int32))] ∧ Z.Warmed39 U.vm ∧ U.heap = h0) (fun _ _ _ _ _ => True) (fun _ U o U' => ∃ v L, o = .returned v ∧ Qla10 Z a1 kk b0 ch fv h0 n0 v U'.heap L ∧ FrameEnd U o U' L ({ frames := 2, cells := 0, slots := 0, locals := 27 } : Room).cells ({ frames := 2, cells := 0, slots := 0, locals := 27 } : Room).slots) := by
  refine MetFree.of_bodySF (plainFor_of_name own_pn_7) hisR ?_
  intro p e s m args below meth c s₁ Bd hml0 hP hK
  obtain ⟨rfl, hZ, hh⟩ := hP
  have hx := Bd.exec
  have hby := Bd.bytes
  have hml : c.maxLocals = 2 := hml0
  have hown : s.vm.findClass "java/lang/StringLatin1" = some m.cls := findClass_of_methodNamed Bd.named
  have hnm := (name_of_methodNamed Bd.named Bd.method).1
  have X0 : Stand p l e ({ frames := 2, cells := 0, slots := 0, locals := 27 } : Room) s m #[(.ref a1), (.int (0 : Int32))] below meth c s₁ [] 0 0 := Stand.of_body Bd
  have e0 : s₁.heap = h0 := by rw [← hh, Bd.state]; rfl
  have N0 := Fr.nil n0
  have pre0 : ∀ t, Steps p.tables e below (s₁.setTop (mkF m 0 #[.val (.ref a1), .val (.int (0 : Int32))] [])) t → Steps p.tables e below (s₁.setTop (entryFrame m #[(.ref a1), (.int (0 : Int32))] 2)) t := fun t k => castTop (ef_la10 m a1) k
  obtain ⟨cl1, Ar1, -, S1, M1, -, -⟩ := id hV
  obtain ⟨_, _, ⟨T2, L2, k2, n2⟩, -, X2, ⟨Lc2, hQ2, l2, y2, z2⟩, st2⟩ := Jvm.LawKit.callS X0 hx (y := (⟨"java/lang/String", "checkIndex", "(II)V"⟩ : MethodName)) hown (mvT hZ (own_k hw 126 rfl)) (mvT hZ (own_k hw 107 rfl)) (mvT hZ (own_k hw 7 rfl)) (mvT hZ (own_k hw 108 rfl)) (by decide) (backOf (W := 0) (rmSc l Z a0 hw [] (0 : Int32) (1 : Int32) fv h0 n0 Z0 hSf (hfr) hO (by decide) (by decide)) hZ (own_k hw 108 rfl) (own_k hw 7 rfl) (by decide) (by decide)) (g := (mkF m 3 #[.val (.ref a1), .val (.int (0 : Int32))] [(.int (1 : Int32)), (.int (0 : Int32))])) rfl (by rw [hml]; rfl) (argsL := [(.int (0 : Int32)), (.int (1 : Int32))]) (rest := []) (lenOf own_pd_3 rfl) rfl (by show 2 * 0 + _ ≤ _; exact Nat.le_of_eq rfl) (hb hby d29_3) (fun _ _ => ⟨rfl, e0, (by decide : 0 + 0 ≤ _), (by decide : 0 + 0 ≤ _)⟩)
  dsimp only [Pt.U, Pt.locs, Pt.cells, Pt.slots] at X2 l2 y2 z2 st2 hQ2
  subst l2
  subst y2 z2
  obtain ⟨Nq2, eh2, hv2⟩ := hQ2
  have N2 := Fr.app N0 Nq2
  subst hv2
  obtain ⟨cl3, Ar3, q3, S3, M3, H3, G3⟩ := id hV
  have hin3 : ¬ ((0 : Int32) < 0 ∨ cl3.slots.size ≤ ((0 : Int32)).toNatClampNeg) := inb_of S3 ⟨by decide, by decide⟩
  have hat3 : cl3.slots[((0 : Int32)).toNatClampNeg]? = some (.int b0) := H3.at hin3 rfl
  obtain ⟨fs, hr, hrun, hended, hW, hsame⟩ := X2.leave (v := (some (.int (nar .char ((b0 &&& (255 : Int32)).toUInt32.toUInt16.toUInt32.toInt32))))) (fun h => by rw [Bd.returns] at h; cases h)
  refine ⟨_, _, pre0 _ ?_, hrun, hended, _, _, rfl, ?_, ⟨_, rfl⟩, hW, hsame.mono (by decide) (by decide)⟩
  · show Steps p.tables e below (s₁.setTop (mkF m 0 #[.val (.ref a1), .val (.int (0 : Int32))] [])) _
    refine XS.iloadN X0.here hx rfl (hb hby d29_0) rfl ?_
    show Steps p.tables e below (s₁.setTop (mkF m 1 #[.val (.ref a1), .val (.int (0 : Int32))] [(.int (0 : Int32))])) _
    refine XS.aloadN X0.here hx rfl (hb hby d29_1) rfl rfl ?_
    show Steps p.tables e below (s₁.setTop (mkF m 2 #[.val (.ref a1), .val (.int (0 : Int32))] [(.ref a1), (.int (0 : Int32))])) _
    refine X0.arraylength hx (by rw [e0]; exact Ar1.1) (State.isArrayOf_alike hZ.alike Ar1.2.1) (g := (mkF m 2 #[.val (.ref a1), .val (.int (0 : Int32))] [(.ref a1), (.int (0 : Int32))])) rfl rfl (hb hby d29_2) _ ?_
    rw [len_of S1 M1]
    show Steps p.tables e below (s₁.setTop (mkF m 3 #[.val (.ref a1), .val (.int (0 : Int32))] [(.int (1 : Int32)), (.int (0 : Int32))])) _
    refine st2 _ ?_
    show Steps p.tables e below (T2.setTop (mkF m 6 #[.val (.ref a1), .val (.int (0 : Int32))] [])) _
    refine XS.aloadN X2.here hx rfl (hb hby d29_6) rfl rfl ?_
    show Steps p.tables e below (T2.setTop (mkF m 7 #[.val (.ref a1), .val (.int (0 : Int32))] [(.ref a1)])) _
    refine XS.iloadN X2.here hx rfl (hb hby d29_7) rfl ?_
    show Steps p.tables e below (T2.setTop (mkF m 8 #[.val (.ref a1), .val (.int (0 : Int32))] [(.int (0 : Int32)), (.ref a1)])) _
    refine X2.baloadBytes hx (j := (0 : Int32)) (v := (.int b0)) (by rw [eh2]; exact Ar3.1) (State.isArrayOf_alike hZ.alike Ar3.2.1) Ar3.2.2 hin3 hat3 (g := (mkF m 8 #[.val (.ref a1), .val (.int (0 : Int32))] [(.int (0 : Int32)), (.ref a1)])) rfl rfl (hb hby d29_8) _ ?_
    show Steps p.tables e below (T2.setTop (mkF m 9 #[.val (.ref a1), .val (.int (0 : Int32))] [(.int b0)])) _
    refine XS.sipush X2.here hx rfl (hb hby d29_9) ?_
    show Steps p.tables e below (T2.setTop (mkF m 12 #[.val (.ref a1), .val (.int (0 : Int32))] [(.int (255 : Int32)), (.int b0)])) _
    refine XS.iand X2.here hx rfl (hb hby d29_12) rfl ?_
    show Steps p.tables e below (T2.setTop (mkF m 13 #[.val (.ref a1), .val (.int (0 : Int32))] [(.int (b0 &&& (255 : Int32)))])) _
    refine XS.i2c X2.here hx rfl (hb hby d29_13) rfl ?_
    show Steps p.tables e below (T2.setTop (mkF m 14 #[.val (.ref a1), .val (.int (0 : Int32))] [(.int ((b0 &&& (255 : Int32)).toUInt32.toUInt16.toUInt32.toInt32))])) _
    exact retN X2 hx (t := .char) Bd.returns (by simp) (hb hby d29_14) hr
  · show Qla10 Z a1 kk b0 ch fv h0 n0 _ T2.heap _
    rw [eh2]
    exact ⟨N2, rfl, (congrArg (fun z => some (Value.int z)) hD)⟩
theorem ef_la20 (m : MethodId) (a1 : Addr) : entryFrame m #[(.ref a1), (.int (0 : Int32))] 2 = mkF m 0 #[.val (.ref a1), .val (.int (0 : Int32))] [] := by first | (simp [entryFrame, mkF, argsToLocals, Value.category]; done) | rfl
def Qla20 (Z : State) (a1 : Addr) (kk : ClassId) (b0 : Int32) (b1 : Int32) (ch : Int32) (fv : Value) (h0 : Heap) (n0 : Nat) (v : Option Value) (h : Heap) (L : List Loc) : Prop := Fr n0 L ∧ h = h0 ∧ (v = some (.int ch))
set_option maxRecDepth 65536 in
set_option maxHeartbeats 40000000 in
theorem rmLa20 (l : Launch) (Z : State) (a0 : Array Value) (hw : ∀ d ∈ tables_1, d.before a0 Z = true) (ws : List Jvm.Cond) (a1 : Addr) (kk : ClassId) (b0 : Int32) (b1 : Int32) (ch : Int32) (fv : Value) (h0 : Heap) (n0 : Nat) (Z0 : n0 ≤ h0.size) (hSf : Sta Z Z.heap "jdk/internal/util/Preconditions" "SIOOBE_FORMATTER" "Ljava/util/function/BiFunction;" fv) (hfr : fv.isRef = true) (hO : Old Z n0 h0) (hV : Arv Z h0 a1 kk .byte (2 : Int32) [(.int b0), (.int b1)] (.int (0 : Int32))) (hD : nar .char (own_d8 b0) = ch) :
    MetFree l (⟨"java/lang/StringLatin1", "charAt", "([BI)C"⟩ : MethodName) (head1 (Jvm.Cond.code (⟨"java/lang/StringLatin1", "charAt", "([BI)C"⟩ : MethodName) jdk_43_method_2_code 2 (some .char) :: ws) ({ frames := 2, cells := 0, slots := 0, locals := 27 } : Room)) (fun a U => a = #[(.ref a1), (.int (0 : Int32))] ∧ Z.Warmed39 U.vm ∧ U.heap = h0) (fun _ _ _ _ _ => True) (fun _ U o U' => ∃ v L, o = .returned v ∧ Qla20 Z a1 kk b0 b1 ch fv h0 n0 v U'.heap L ∧ FrameEnd U o U' L ({ frames := 2, cells := 0, slots := 0, locals := 27 } : Room).cells ({ frames := 2, cells := 0, slots := 0, locals := 27 } : Room).slots) := by
  refine MetFree.of_bodySF (plainFor_of_name own_pn_7) hisR ?_
  intro p e s m args below meth c s₁ Bd hml0 hP hK
  obtain ⟨rfl, hZ, hh⟩ := hP
  have hx := Bd.exec
  have hby := Bd.bytes
  have hml : c.maxLocals = 2 := hml0
  have hown : s.vm.findClass "java/lang/StringLatin1" = some m.cls := findClass_of_methodNamed Bd.named
  have hnm := (name_of_methodNamed Bd.named Bd.method).1
  have X0 : Stand p l e ({ frames := 2, cells := 0, slots := 0, locals := 27 } : Room) s m #[(.ref a1), (.int (0 : Int32))] below meth c s₁ [] 0 0 := Stand.of_body Bd
  have e0 : s₁.heap = h0 := by rw [← hh, Bd.state]; rfl
  have N0 := Fr.nil n0
  have pre0 : ∀ t, Steps p.tables e below (s₁.setTop (mkF m 0 #[.val (.ref a1), .val (.int (0 : Int32))] [])) t → Steps p.tables e below (s₁.setTop (entryFrame m #[(.ref a1), (.int (0 : Int32))] 2)) t := fun t k => castTop (ef_la20 m a1) k
  obtain ⟨cl1, Ar1, -, S1, M1, -, -⟩ := id hV
  obtain ⟨_, _, ⟨T2, L2, k2, n2⟩, -, X2, ⟨Lc2, hQ2, l2, y2, z2⟩, st2⟩ := Jvm.LawKit.callS X0 hx (y := (⟨"java/lang/String", "checkIndex", "(II)V"⟩ : MethodName)) hown (mvT hZ (own_k hw 126 rfl)) (mvT hZ (own_k hw 107 rfl)) (mvT hZ (own_k hw 7 rfl)) (mvT hZ (own_k hw 108 rfl)) (by decide) (backOf (W := 0) (rmSc l Z a0 hw [] (0 : Int32) (2 : Int32) fv h0 n0 Z0 hSf (hfr) hO (by decide) (by decide)) hZ (own_k hw 108 rfl) (own_k hw 7 rfl) (by decide) (by decide)) (g := (mkF m 3 #[.val (.ref a1), .val (.int (0 : Int32))] [(.int (2 : Int32)), (.int (0 : Int32))])) rfl (by rw [hml]; rfl) (argsL := [(.int (0 : Int32)), (.int (2 : Int32))]) (rest := []) (lenOf own_pd_3 rfl) rfl (by show 2 * 0 + _ ≤ _; exact Nat.le_of_eq rfl) (hb hby d29_3) (fun _ _ => ⟨rfl, e0, (by decide : 0 + 0 ≤ _), (by decide : 0 + 0 ≤ _)⟩)
  dsimp only [Pt.U, Pt.locs, Pt.cells, Pt.slots] at X2 l2 y2 z2 st2 hQ2
  subst l2
  subst y2 z2
  obtain ⟨Nq2, eh2, hv2⟩ := hQ2
  have N2 := Fr.app N0 Nq2
  subst hv2
  obtain ⟨cl3, Ar3, q3, S3, M3, H3, G3⟩ := id hV
  have hin3 : ¬ ((0 : Int32) < 0 ∨ cl3.slots.size ≤ ((0 : Int32)).toNatClampNeg) := inb_of S3 ⟨by decide, by decide⟩
  have hat3 : cl3.slots[((0 : Int32)).toNatClampNeg]? = some (.int b0) := H3.at hin3 rfl
  obtain ⟨fs, hr, hrun, hended, hW, hsame⟩ := X2.leave (v := (some (.int (nar .char ((b0 &&& (255 : Int32)).toUInt32.toUInt16.toUInt32.toInt32))))) (fun h => by rw [Bd.returns] at h; cases h)
  refine ⟨_, _, pre0 _ ?_, hrun, hended, _, _, rfl, ?_, ⟨_, rfl⟩, hW, hsame.mono (by decide) (by decide)⟩
  · show Steps p.tables e below (s₁.setTop (mkF m 0 #[.val (.ref a1), .val (.int (0 : Int32))] [])) _
    refine XS.iloadN X0.here hx rfl (hb hby d29_0) rfl ?_
    show Steps p.tables e below (s₁.setTop (mkF m 1 #[.val (.ref a1), .val (.int (0 : Int32))] [(.int (0 : Int32))])) _
    refine XS.aloadN X0.here hx rfl (hb hby d29_1) rfl rfl ?_
    show Steps p.tables e below (s₁.setTop (mkF m 2 #[.val (.ref a1), .val (.int (0 : Int32))] [(.ref a1), (.int (0 : Int32))])) _
    refine X0.arraylength hx (by rw [e0]; exact Ar1.1) (State.isArrayOf_alike hZ.alike Ar1.2.1) (g := (mkF m 2 #[.val (.ref a1), .val (.int (0 : Int32))] [(.ref a1), (.int (0 : Int32))])) rfl rfl (hb hby d29_2) _ ?_
    rw [len_of S1 M1]
    show Steps p.tables e below (s₁.setTop (mkF m 3 #[.val (.ref a1), .val (.int (0 : Int32))] [(.int (2 : Int32)), (.int (0 : Int32))])) _
    refine st2 _ ?_
    show Steps p.tables e below (T2.setTop (mkF m 6 #[.val (.ref a1), .val (.int (0 : Int32))] [])) _
    refine XS.aloadN X2.here hx rfl (hb hby d29_6) rfl rfl ?_
    show Steps p.tables e below (T2.setTop (mkF m 7 #[.val (.ref a1), .val (.int (0 : Int32))] [(.ref a1)])) _
    refine XS.iloadN X2.here hx rfl (hb hby d29_7) rfl ?_
    show Steps p.tables e below (T2.setTop (mkF m 8 #[.val (.ref a1), .val (.int (0 : Int32))] [(.int (0 : Int32)), (.ref a1)])) _
    refine X2.baloadBytes hx (j := (0 : Int32)) (v := (.int b0)) (by rw [eh2]; exact Ar3.1) (State.isArrayOf_alike hZ.alike Ar3.2.1) Ar3.2.2 hin3 hat3 (g := (mkF m 8 #[.val (.ref a1), .val (.int (0 : Int32))] [(.int (0 : Int32)), (.ref a1)])) rfl rfl (hb hby d29_8) _ ?_
    show Steps p.tables e below (T2.setTop (mkF m 9 #[.val (.ref a1), .val (.int (0 : Int32))] [(.int b0)])) _
    refine XS.sipush X2.here hx rfl (hb hby d29_9) ?_
    show Steps p.tables e below (T2.setTop (mkF m 12 #[.val (.ref a1), .val (.int (0 : Int32))] [(.int (255 : Int32)), (.int b0)])) _
    refine XS.iand X2.here hx rfl (hb hby d29_12) rfl ?_
    show Steps p.tables e below (T2.setTop (mkF m 13 #[.val (.ref a1), .val (.int (0 : Int32))] [(.int (b0 &&& (255 : Int32)))])) _
    refine XS.i2c X2.here hx rfl (hb hby d29_13) rfl ?_
    show Steps p.tables e below (T2.setTop (mkF m 14 #[.val (.ref a1), .val (.int (0 : Int32))] [(.int ((b0 &&& (255 : Int32)).toUInt32.toUInt16.toUInt32.toInt32))])) _
    exact retN X2 hx (t := .char) Bd.returns (by simp) (hb hby d29_14) hr
  · show Qla20 Z a1 kk b0 b1 ch fv h0 n0 _ T2.heap _
    rw [eh2]
    exact ⟨N2, rfl, (congrArg (fun z => some (Value.int z)) hD)⟩
theorem ef_la21 (m : MethodId) (a1 : Addr) : entryFrame m #[(.ref a1), (.int (1 : Int32))] 2 = mkF m 0 #[.val (.ref a1), .val (.int (1 : Int32))] [] := by first | (simp [entryFrame, mkF, argsToLocals, Value.category]; done) | rfl
def Qla21 (Z : State) (a1 : Addr) (kk : ClassId) (b0 : Int32) (b1 : Int32) (ch : Int32) (fv : Value) (h0 : Heap) (n0 : Nat) (v : Option Value) (h : Heap) (L : List Loc) : Prop := Fr n0 L ∧ h = h0 ∧ (v = some (.int ch))
set_option maxRecDepth 65536 in
set_option maxHeartbeats 40000000 in
theorem rmLa21 (l : Launch) (Z : State) (a0 : Array Value) (hw : ∀ d ∈ tables_1, d.before a0 Z = true) (ws : List Jvm.Cond) (a1 : Addr) (kk : ClassId) (b0 : Int32) (b1 : Int32) (ch : Int32) (fv : Value) (h0 : Heap) (n0 : Nat) (Z0 : n0 ≤ h0.size) (hSf : Sta Z Z.heap "jdk/internal/util/Preconditions" "SIOOBE_FORMATTER" "Ljava/util/function/BiFunction;" fv) (hfr : fv.isRef = true) (hO : Old Z n0 h0) (hV : Arv Z h0 a1 kk .byte (2 : Int32) [(.int b0), (.int b1)] (.int (0 : Int32))) (hD : nar .char (own_d8 b1) = ch) :
    MetFree l (⟨"java/lang/StringLatin1", "charAt", "([BI)C"⟩ : MethodName) (head1 (Jvm.Cond.code (⟨"java/lang/StringLatin1", "charAt", "([BI)C"⟩ : MethodName) jdk_43_method_2_code 2 (some .char) :: ws) ({ frames := 2, cells := 0, slots := 0, locals := 27 } : Room)) (fun a U => a = #[(.ref a1), (.int (1 : Int32))] ∧ Z.Warmed39 U.vm ∧ U.heap = h0) (fun _ _ _ _ _ => True) (fun _ U o U' => ∃ v L, o = .returned v ∧ Qla21 Z a1 kk b0 b1 ch fv h0 n0 v U'.heap L ∧ FrameEnd U o U' L ({ frames := 2, cells := 0, slots := 0, locals := 27 } : Room).cells ({ frames := 2, cells := 0, slots := 0, locals := 27 } : Room).slots) := by
  refine MetFree.of_bodySF (plainFor_of_name own_pn_7) hisR ?_
  intro p e s m args below meth c s₁ Bd hml0 hP hK
  obtain ⟨rfl, hZ, hh⟩ := hP
  have hx := Bd.exec
  have hby := Bd.bytes
  have hml : c.maxLocals = 2 := hml0
  have hown : s.vm.findClass "java/lang/StringLatin1" = some m.cls := findClass_of_methodNamed Bd.named
  have hnm := (name_of_methodNamed Bd.named Bd.method).1
  have X0 : Stand p l e ({ frames := 2, cells := 0, slots := 0, locals := 27 } : Room) s m #[(.ref a1), (.int (1 : Int32))] below meth c s₁ [] 0 0 := Stand.of_body Bd
  have e0 : s₁.heap = h0 := by rw [← hh, Bd.state]; rfl
  have N0 := Fr.nil n0
  have pre0 : ∀ t, Steps p.tables e below (s₁.setTop (mkF m 0 #[.val (.ref a1), .val (.int (1 : Int32))] [])) t → Steps p.tables e below (s₁.setTop (entryFrame m #[(.ref a1), (.int (1 : Int32))] 2)) t := fun t k => castTop (ef_la21 m a1) k
  obtain ⟨cl1, Ar1, -, S1, M1, -, -⟩ := id hV
  obtain ⟨_, _, ⟨T2, L2, k2, n2⟩, -, X2, ⟨Lc2, hQ2, l2, y2, z2⟩, st2⟩ := Jvm.LawKit.callS X0 hx (y := (⟨"java/lang/String", "checkIndex", "(II)V"⟩ : MethodName)) hown (mvT hZ (own_k hw 126 rfl)) (mvT hZ (own_k hw 107 rfl)) (mvT hZ (own_k hw 7 rfl)) (mvT hZ (own_k hw 108 rfl)) (by decide) (backOf (W := 0) (rmSc l Z a0 hw [] (1 : Int32) (2 : Int32) fv h0 n0 Z0 hSf (hfr) hO (by decide) (by decide)) hZ (own_k hw 108 rfl) (own_k hw 7 rfl) (by decide) (by decide)) (g := (mkF m 3 #[.val (.ref a1), .val (.int (1 : Int32))] [(.int (2 : Int32)), (.int (1 : Int32))])) rfl (by rw [hml]; rfl) (argsL := [(.int (1 : Int32)), (.int (2 : Int32))]) (rest := []) (lenOf own_pd_3 rfl) rfl (by show 2 * 0 + _ ≤ _; exact Nat.le_of_eq rfl) (hb hby d29_3) (fun _ _ => ⟨rfl, e0, (by decide : 0 + 0 ≤ _), (by decide : 0 + 0 ≤ _)⟩)
  dsimp only [Pt.U, Pt.locs, Pt.cells, Pt.slots] at X2 l2 y2 z2 st2 hQ2
  subst l2
  subst y2 z2
  obtain ⟨Nq2, eh2, hv2⟩ := hQ2
  have N2 := Fr.app N0 Nq2
  subst hv2
  obtain ⟨cl3, Ar3, q3, S3, M3, H3, G3⟩ := id hV
  have hin3 : ¬ ((1 : Int32) < 0 ∨ cl3.slots.size ≤ ((1 : Int32)).toNatClampNeg) := inb_of S3 ⟨by decide, by decide⟩
  have hat3 : cl3.slots[((1 : Int32)).toNatClampNeg]? = some (.int b1) := H3.at hin3 rfl
  obtain ⟨fs, hr, hrun, hended, hW, hsame⟩ := X2.leave (v := (some (.int (nar .char ((b1 &&& (255 : Int32)).toUInt32.toUInt16.toUInt32.toInt32))))) (fun h => by rw [Bd.returns] at h; cases h)
  refine ⟨_, _, pre0 _ ?_, hrun, hended, _, _, rfl, ?_, ⟨_, rfl⟩, hW, hsame.mono (by decide) (by decide)⟩
  · show Steps p.tables e below (s₁.setTop (mkF m 0 #[.val (.ref a1), .val (.int (1 : Int32))] [])) _
    refine XS.iloadN X0.here hx rfl (hb hby d29_0) rfl ?_
    show Steps p.tables e below (s₁.setTop (mkF m 1 #[.val (.ref a1), .val (.int (1 : Int32))] [(.int (1 : Int32))])) _
    refine XS.aloadN X0.here hx rfl (hb hby d29_1) rfl rfl ?_
    show Steps p.tables e below (s₁.setTop (mkF m 2 #[.val (.ref a1), .val (.int (1 : Int32))] [(.ref a1), (.int (1 : Int32))])) _
    refine X0.arraylength hx (by rw [e0]; exact Ar1.1) (State.isArrayOf_alike hZ.alike Ar1.2.1) (g := (mkF m 2 #[.val (.ref a1), .val (.int (1 : Int32))] [(.ref a1), (.int (1 : Int32))])) rfl rfl (hb hby d29_2) _ ?_
    rw [len_of S1 M1]
    show Steps p.tables e below (s₁.setTop (mkF m 3 #[.val (.ref a1), .val (.int (1 : Int32))] [(.int (2 : Int32)), (.int (1 : Int32))])) _
    refine st2 _ ?_
    show Steps p.tables e below (T2.setTop (mkF m 6 #[.val (.ref a1), .val (.int (1 : Int32))] [])) _
    refine XS.aloadN X2.here hx rfl (hb hby d29_6) rfl rfl ?_
    show Steps p.tables e below (T2.setTop (mkF m 7 #[.val (.ref a1), .val (.int (1 : Int32))] [(.ref a1)])) _
    refine XS.iloadN X2.here hx rfl (hb hby d29_7) rfl ?_
    show Steps p.tables e below (T2.setTop (mkF m 8 #[.val (.ref a1), .val (.int (1 : Int32))] [(.int (1 : Int32)), (.ref a1)])) _
    refine X2.baloadBytes hx (j := (1 : Int32)) (v := (.int b1)) (by rw [eh2]; exact Ar3.1) (State.isArrayOf_alike hZ.alike Ar3.2.1) Ar3.2.2 hin3 hat3 (g := (mkF m 8 #[.val (.ref a1), .val (.int (1 : Int32))] [(.int (1 : Int32)), (.ref a1)])) rfl rfl (hb hby d29_8) _ ?_
    show Steps p.tables e below (T2.setTop (mkF m 9 #[.val (.ref a1), .val (.int (1 : Int32))] [(.int b1)])) _
    refine XS.sipush X2.here hx rfl (hb hby d29_9) ?_
    show Steps p.tables e below (T2.setTop (mkF m 12 #[.val (.ref a1), .val (.int (1 : Int32))] [(.int (255 : Int32)), (.int b1)])) _
    refine XS.iand X2.here hx rfl (hb hby d29_12) rfl ?_
    show Steps p.tables e below (T2.setTop (mkF m 13 #[.val (.ref a1), .val (.int (1 : Int32))] [(.int (b1 &&& (255 : Int32)))])) _
    refine XS.i2c X2.here hx rfl (hb hby d29_13) rfl ?_
    show Steps p.tables e below (T2.setTop (mkF m 14 #[.val (.ref a1), .val (.int (1 : Int32))] [(.int ((b1 &&& (255 : Int32)).toUInt32.toUInt16.toUInt32.toInt32))])) _
    exact retN X2 hx (t := .char) Bd.returns (by simp) (hb hby d29_14) hr
  · show Qla21 Z a1 kk b0 b1 ch fv h0 n0 _ T2.heap _
    rw [eh2]
    exact ⟨N2, rfl, (congrArg (fun z => some (Value.int z)) hD)⟩
theorem d16_0 : decode jdk_52_method_3_code 0 = .ok (.iload_n 0, 1) := by decide +kernel
theorem d16_1 : decode jdk_52_method_3_code 1 = .ok (.ifCond .ge 11, 3) := by decide +kernel
theorem d16_12 : decode jdk_52_method_3_code 12 = .ok (.iload_n 0, 1) := by decide +kernel
theorem d16_13 : decode jdk_52_method_3_code 13 = .ok (.ldc 20, 2) := by decide +kernel
theorem d16_15 : decode jdk_52_method_3_code 15 = .ok (.if_icmp .lt 40, 3) := by decide +kernel
theorem d16_55 : decode jdk_52_method_3_code 55 = .ok (.iload_n 0, 1) := by decide +kernel
theorem d16_56 : decode jdk_52_method_3_code 56 = .ok (.iconst 1, 1) := by decide +kernel
theorem d16_57 : decode jdk_52_method_3_code 57 = .ok (.ishl, 1) := by decide +kernel
theorem d16_58 : decode jdk_52_method_3_code 58 = .ok (.ireturn, 1) := by decide +kernel
theorem ef_nl1 (m : MethodId)  : entryFrame m #[(.int (1 : Int32))] 1 = mkF m 0 #[.val (.int (1 : Int32))] [] := by first | (simp [entryFrame, mkF, argsToLocals, Value.category]; done) | rfl
def Qnl1 (Z : State)  (h0 : Heap) (n0 : Nat) (v : Option Value) (h : Heap) (L : List Loc) : Prop := Fr n0 L ∧ h = h0 ∧ (v = some (.int (2 : Int32)))
set_option maxRecDepth 65536 in
set_option maxHeartbeats 40000000 in
theorem rmNl1 (l : Launch) (Z : State) (a0 : Array Value) (hw : ∀ d ∈ tables_1, d.before a0 Z = true) (ws : List Jvm.Cond)  (h0 : Heap) (n0 : Nat) (Z0 : n0 ≤ h0.size)  :
    MetFree l (⟨"java/lang/StringUTF16", "newBytesLength", "(I)I"⟩ : MethodName) (head1 (Jvm.Cond.code (⟨"java/lang/StringUTF16", "newBytesLength", "(I)I"⟩ : MethodName) jdk_52_method_3_code 1 (some .int) :: ws) ({ frames := 0, cells := 0, slots := 0, locals := 0 } : Room)) (fun a U => a = #[(.int (1 : Int32))] ∧ Z.Warmed39 U.vm ∧ U.heap = h0) (fun _ _ _ _ _ => True) (fun _ U o U' => ∃ v L, o = .returned v ∧ Qnl1 Z  h0 n0 v U'.heap L ∧ FrameEnd U o U' L ({ frames := 0, cells := 0, slots := 0, locals := 0 } : Room).cells ({ frames := 0, cells := 0, slots := 0, locals := 0 } : Room).slots) := by
  refine MetFree.of_bodySF (plainFor_of_name own_pn_6) hisR ?_
  intro p e s m args below meth c s₁ Bd hml0 hP hK
  obtain ⟨rfl, hZ, hh⟩ := hP
  have hx := Bd.exec
  have hby := Bd.bytes
  have hml : c.maxLocals = 1 := hml0
  have hown : s.vm.findClass "java/lang/StringUTF16" = some m.cls := findClass_of_methodNamed Bd.named
  have hnm := (name_of_methodNamed Bd.named Bd.method).1
  have X0 : Stand p l e ({ frames := 0, cells := 0, slots := 0, locals := 0 } : Room) s m #[(.int (1 : Int32))] below meth c s₁ [] 0 0 := Stand.of_body Bd
  have e0 : s₁.heap = h0 := by rw [← hh, Bd.state]; rfl
  have N0 := Fr.nil n0
  have pre0 : ∀ t, Steps p.tables e below (s₁.setTop (mkF m 0 #[.val (.int (1 : Int32))] [])) t → Steps p.tables e below (s₁.setTop (entryFrame m #[(.int (1 : Int32))] 1)) t := fun t k => castTop (ef_nl1 m ) k
  obtain ⟨fs, hr, hrun, hended, hW, hsame⟩ := X0.leave (v := (some (.int (2 : Int32)))) (fun h => by rw [Bd.returns] at h; cases h)
  refine ⟨_, _, pre0 _ ?_, hrun, hended, _, _, rfl, ?_, ⟨_, rfl⟩, hW, hsame.mono (by decide) (by decide)⟩
  · show Steps p.tables e below (s₁.setTop (mkF m 0 #[.val (.int (1 : Int32))] [])) _
    refine XS.iloadN X0.here hx rfl (hb hby d16_0) rfl ?_
    show Steps p.tables e below (s₁.setTop (mkF m 1 #[.val (.int (1 : Int32))] [(.int (1 : Int32))])) _
    refine XS.ifYes X0.here hx rfl (pc0 := 1) (pc' := 12) rfl (hb hby d16_1) rfl (by decide) (by decide) (by decide) ?_
    show Steps p.tables e below (s₁.setTop (mkF m 12 #[.val (.int (1 : Int32))] [])) _
    refine XS.iloadN X0.here hx rfl (hb hby d16_12) rfl ?_
    show Steps p.tables e below (s₁.setTop (mkF m 13 #[.val (.int (1 : Int32))] [(.int (1 : Int32))])) _
    refine X0.ldcInt hx hown (mvT hZ (own_k hw 73 rfl)) (g := (mkF m 13 #[.val (.int (1 : Int32))] [(.int (1 : Int32))])) rfl (hb hby d16_13) _ ?_
    show Steps p.tables e below (s₁.setTop (mkF m 15 #[.val (.int (1 : Int32))] [(.int (1073741823 : Int32)), (.int (1 : Int32))])) _
    refine XS.icmpYes X0.here hx rfl (pc0 := 15) (pc' := 55) rfl (hb hby d16_15) rfl (by decide) (by decide) (by decide) ?_
    show Steps p.tables e below (s₁.setTop (mkF m 55 #[.val (.int (1 : Int32))] [])) _
    refine XS.iloadN X0.here hx rfl (hb hby d16_55) rfl ?_
    show Steps p.tables e below (s₁.setTop (mkF m 56 #[.val (.int (1 : Int32))] [(.int (1 : Int32))])) _
    refine XS.iconst X0.here hx rfl (hb hby d16_56) ?_
    show Steps p.tables e below (s₁.setTop (mkF m 57 #[.val (.int (1 : Int32))] [(.int (1 : Int32)), (.int (1 : Int32))])) _
    refine XS.ishl X0.here hx rfl (hb hby d16_57) rfl ?_
    show Steps p.tables e below (s₁.setTop (mkF m 58 #[.val (.int (1 : Int32))] [(.int (2 : Int32))])) _
    exact retOut X0 hx Bd.returns rfl (Or.inl ⟨rfl, Or.inl rfl, _, rfl⟩) (hb hby d16_58) hr
  · show Qnl1 Z  h0 n0 _ s₁.heap _
    rw [e0]
    exact ⟨N0, rfl, rfl⟩
theorem ef_nl2 (m : MethodId)  : entryFrame m #[(.int (2 : Int32))] 1 = mkF m 0 #[.val (.int (2 : Int32))] [] := by first | (simp [entryFrame, mkF, argsToLocals, Value.category]; done) | rfl
def Qnl2 (Z : State)  (h0 : Heap) (n0 : Nat) (v : Option Value) (h : Heap) (L : List Loc) : Prop := Fr n0 L ∧ h = h0 ∧ (v = some (.int (4 : Int32)))
set_option maxRecDepth 65536 in
set_option maxHeartbeats 40000000 in
theorem rmNl2 (l : Launch) (Z : State) (a0 : Array Value) (hw : ∀ d ∈ tables_1, d.before a0 Z = true) (ws : List Jvm.Cond)  (h0 : Heap) (n0 : Nat) (Z0 : n0 ≤ h0.size)  :
    MetFree l (⟨"java/lang/StringUTF16", "newBytesLength", "(I)I"⟩ : MethodName) (head1 (Jvm.Cond.code (⟨"java/lang/StringUTF16", "newBytesLength", "(I)I"⟩ : MethodName) jdk_52_method_3_code 1 (some .int) :: ws) ({ frames := 0, cells := 0, slots := 0, locals := 0 } : Room)) (fun a U => a = #[(.int (2 : Int32))] ∧ Z.Warmed39 U.vm ∧ U.heap = h0) (fun _ _ _ _ _ => True) (fun _ U o U' => ∃ v L, o = .returned v ∧ Qnl2 Z  h0 n0 v U'.heap L ∧ FrameEnd U o U' L ({ frames := 0, cells := 0, slots := 0, locals := 0 } : Room).cells ({ frames := 0, cells := 0, slots := 0, locals := 0 } : Room).slots) := by
  refine MetFree.of_bodySF (plainFor_of_name own_pn_6) hisR ?_
  intro p e s m args below meth c s₁ Bd hml0 hP hK
  obtain ⟨rfl, hZ, hh⟩ := hP
  have hx := Bd.exec
  have hby := Bd.bytes
  have hml : c.maxLocals = 1 := hml0
  have hown : s.vm.findClass "java/lang/StringUTF16" = some m.cls := findClass_of_methodNamed Bd.named
  have hnm := (name_of_methodNamed Bd.named Bd.method).1
  have X0 : Stand p l e ({ frames := 0, cells := 0, slots := 0, locals := 0 } : Room) s m #[(.int (2 : Int32))] below meth c s₁ [] 0 0 := Stand.of_body Bd
  have e0 : s₁.heap = h0 := by rw [← hh, Bd.state]; rfl
  have N0 := Fr.nil n0
  have pre0 : ∀ t, Steps p.tables e below (s₁.setTop (mkF m 0 #[.val (.int (2 : Int32))] [])) t → Steps p.tables e below (s₁.setTop (entryFrame m #[(.int (2 : Int32))] 1)) t := fun t k => castTop (ef_nl2 m ) k
  obtain ⟨fs, hr, hrun, hended, hW, hsame⟩ := X0.leave (v := (some (.int (4 : Int32)))) (fun h => by rw [Bd.returns] at h; cases h)
  refine ⟨_, _, pre0 _ ?_, hrun, hended, _, _, rfl, ?_, ⟨_, rfl⟩, hW, hsame.mono (by decide) (by decide)⟩
  · show Steps p.tables e below (s₁.setTop (mkF m 0 #[.val (.int (2 : Int32))] [])) _
    refine XS.iloadN X0.here hx rfl (hb hby d16_0) rfl ?_
    show Steps p.tables e below (s₁.setTop (mkF m 1 #[.val (.int (2 : Int32))] [(.int (2 : Int32))])) _
    refine XS.ifYes X0.here hx rfl (pc0 := 1) (pc' := 12) rfl (hb hby d16_1) rfl (by decide) (by decide) (by decide) ?_
    show Steps p.tables e below (s₁.setTop (mkF m 12 #[.val (.int (2 : Int32))] [])) _
    refine XS.iloadN X0.here hx rfl (hb hby d16_12) rfl ?_
    show Steps p.tables e below (s₁.setTop (mkF m 13 #[.val (.int (2 : Int32))] [(.int (2 : Int32))])) _
    refine X0.ldcInt hx hown (mvT hZ (own_k hw 73 rfl)) (g := (mkF m 13 #[.val (.int (2 : Int32))] [(.int (2 : Int32))])) rfl (hb hby d16_13) _ ?_
    show Steps p.tables e below (s₁.setTop (mkF m 15 #[.val (.int (2 : Int32))] [(.int (1073741823 : Int32)), (.int (2 : Int32))])) _
    refine XS.icmpYes X0.here hx rfl (pc0 := 15) (pc' := 55) rfl (hb hby d16_15) rfl (by decide) (by decide) (by decide) ?_
    show Steps p.tables e below (s₁.setTop (mkF m 55 #[.val (.int (2 : Int32))] [])) _
    refine XS.iloadN X0.here hx rfl (hb hby d16_55) rfl ?_
    show Steps p.tables e below (s₁.setTop (mkF m 56 #[.val (.int (2 : Int32))] [(.int (2 : Int32))])) _
    refine XS.iconst X0.here hx rfl (hb hby d16_56) ?_
    show Steps p.tables e below (s₁.setTop (mkF m 57 #[.val (.int (2 : Int32))] [(.int (1 : Int32)), (.int (2 : Int32))])) _
    refine XS.ishl X0.here hx rfl (hb hby d16_57) rfl ?_
    show Steps p.tables e below (s₁.setTop (mkF m 58 #[.val (.int (2 : Int32))] [(.int (4 : Int32))])) _
    exact retOut X0 hx Bd.returns rfl (Or.inl ⟨rfl, Or.inl rfl, _, rfl⟩) (hb hby d16_58) hr
  · show Qnl2 Z  h0 n0 _ s₁.heap _
    rw [e0]
    exact ⟨N0, rfl, rfl⟩
theorem d15_0 : decode jdk_52_method_2_code 0 = .ok (.iload_n 0, 1) := by decide +kernel
theorem d15_1 : decode jdk_52_method_2_code 1 = .ok (.invokestatic 11, 3) := by decide +kernel
theorem own_pd_6 : parseMethodDescriptor "(I)I" = some ⟨[.int], some .int⟩ := by decide +kernel
theorem d15_4 : decode jdk_52_method_2_code 4 = .ok (.newarray .byte, 2) := by decide +kernel
theorem d15_6 : decode jdk_52_method_2_code 6 = .ok (.areturn, 1) := by decide +kernel
theorem ef_nf1 (m : MethodId)  : entryFrame m #[(.int (1 : Int32))] 1 = mkF m 0 #[.val (.int (1 : Int32))] [] := by first | (simp [entryFrame, mkF, argsToLocals, Value.category]; done) | rfl
def Qnf1 (Z : State)  (h0 : Heap) (n0 : Nat) (v : Option Value) (h : Heap) (L : List Loc) : Prop := ∃ (bb : Addr) (k0 : ClassId), Fr n0 L ∧ Keep h0 h [] ∧ h0.size ≤ bb ∧ Arv Z h bb k0 .byte (2 : Int32) [(.int (0 : Int32)), (.int (0 : Int32))] (.int (0 : Int32)) ∧ (v = some (.ref bb))
set_option maxRecDepth 65536 in
set_option maxHeartbeats 40000000 in
theorem rmNf1 (l : Launch) (Z : State) (a0 : Array Value) (hw : ∀ d ∈ tables_1, d.before a0 Z = true) (ws : List Jvm.Cond)  (h0 : Heap) (n0 : Nat) (Z0 : n0 ≤ h0.size)  :
    MetFree l (⟨"java/lang/StringUTF16", "newBytesFor", "(I)[B"⟩ : MethodName) (head1 (Jvm.Cond.code (⟨"java/lang/StringUTF16", "newBytesFor", "(I)[B"⟩ : MethodName) jdk_52_method_2_code 1 (some (.array .byte)) :: ws) ({ frames := 1, cells := 1, slots := 2, locals := 12 } : Room)) (fun a U => a = #[(.int (1 : Int32))] ∧ Z.Warmed39 U.vm ∧ U.heap = h0) (fun _ _ _ _ _ => True) (fun _ U o U' => ∃ v L, o = .returned v ∧ Qnf1 Z  h0 n0 v U'.heap L ∧ FrameEnd U o U' L ({ frames := 1, cells := 1, slots := 2, locals := 12 } : Room).cells ({ frames := 1, cells := 1, slots := 2, locals := 12 } : Room).slots) := by
  refine MetFree.of_bodySF (plainFor_of_name own_pn_6) hisR ?_
  intro p e s m args below meth c s₁ Bd hml0 hP hK
  obtain ⟨rfl, hZ, hh⟩ := hP
  have hx := Bd.exec
  have hby := Bd.bytes
  have hml : c.maxLocals = 1 := hml0
  have hown : s.vm.findClass "java/lang/StringUTF16" = some m.cls := findClass_of_methodNamed Bd.named
  have hnm := (name_of_methodNamed Bd.named Bd.method).1
  have X0 : Stand p l e ({ frames := 1, cells := 1, slots := 2, locals := 12 } : Room) s m #[(.int (1 : Int32))] below meth c s₁ [] 0 0 := Stand.of_body Bd
  have e0 : s₁.heap = h0 := by rw [← hh, Bd.state]; rfl
  have N0 := Fr.nil n0
  have pre0 : ∀ t, Steps p.tables e below (s₁.setTop (mkF m 0 #[.val (.int (1 : Int32))] [])) t → Steps p.tables e below (s₁.setTop (entryFrame m #[(.int (1 : Int32))] 1)) t := fun t k => castTop (ef_nf1 m ) k
  obtain ⟨_, _, ⟨T1, L1, k1, n1⟩, -, X1, ⟨Lc1, hQ1, l1, y1, z1⟩, st1⟩ := Jvm.LawKit.callS X0 hx (y := (⟨"java/lang/StringUTF16", "newBytesLength", "(I)I"⟩ : MethodName)) hown (mvT hZ (own_k hw 70 rfl)) (mvT hZ (own_k hw 71 rfl)) (mvT hZ (own_k hw 22 rfl)) (mvT hZ (own_k hw 72 rfl)) (by decide) (backOf (W := 0) (rmNl1 l Z a0 hw []  h0 n0 Z0 ) hZ (own_k hw 72 rfl) (own_k hw 22 rfl) (by decide) (by decide)) (g := (mkF m 1 #[.val (.int (1 : Int32))] [(.int (1 : Int32))])) rfl (by rw [hml]; rfl) (argsL := [(.int (1 : Int32))]) (rest := []) (lenOf own_pd_6 rfl) rfl (by show 2 * 0 + _ ≤ _; exact Nat.le_of_eq rfl) (hb hby d15_1) (fun _ _ => ⟨rfl, e0, (by decide : 0 + 0 ≤ _), (by decide : 0 + 0 ≤ _)⟩)
  dsimp only [Pt.U, Pt.locs, Pt.cells, Pt.slots] at X1 l1 y1 z1 st1 hQ1
  subst l1
  subst y1 z1
  obtain ⟨Nq1, eh1, hv1⟩ := hQ1
  have N1 := Fr.app N0 Nq1
  subst hv1
  obtain ⟨T2, h2, k2, X2, e2, E2, A2, st2⟩ := newP X1 hx hZ (own_k hw 24 rfl) eh1 (g := (mkF m 4 #[.val (.int (1 : Int32))] [(.int (2 : Int32))])) rfl (hb hby d15_4) rfl (by decide) (cap := 2) (by decide) (by decide) (by decide) (by decide)
  obtain ⟨b2, g2⟩ : ∃ z, z = h0.size := ⟨_, rfl⟩
  rw [← g2] at A2 st2
  have g_b2 : n0 ≤ b2 := Nat.le_trans Z0 (Nat.le_of_eq g2.symm)
  have sz_b2 : h0.size ≤ b2 := Nat.le_trans (Keep.refl h0 []).1 (Nat.le_of_eq g2.symm)
  have K3 : Keep h0 h2 [] := (Keep.refl h0 []).ext E2
  have V2 : Arv Z h2 b2 k2 .byte (2 : Int32) [(.int (0 : Int32)), (.int (0 : Int32))] (.int (0 : Int32)) := (Arv.new A2 (by decide)).pad (pad_rep [] (.int (0 : Int32)) 2)
  obtain ⟨fs, hr, hrun, hended, hW, hsame⟩ := X2.leave (v := (some (.ref b2))) (fun h => by rw [Bd.returns] at h; cases h)
  refine ⟨_, _, pre0 _ ?_, hrun, hended, _, _, rfl, ?_, ⟨_, rfl⟩, hW, hsame.mono (by decide) (by decide)⟩
  · show Steps p.tables e below (s₁.setTop (mkF m 0 #[.val (.int (1 : Int32))] [])) _
    refine XS.iloadN X0.here hx rfl (hb hby d15_0) rfl ?_
    show Steps p.tables e below (s₁.setTop (mkF m 1 #[.val (.int (1 : Int32))] [(.int (1 : Int32))])) _
    refine st1 _ ?_
    show Steps p.tables e below (T1.setTop (mkF m 4 #[.val (.int (1 : Int32))] [(.int (2 : Int32))])) _
    refine st2 _ ?_
    show Steps p.tables e below (T2.setTop (mkF m 6 #[.val (.int (1 : Int32))] [(.ref b2)])) _
    exact retOut X2 hx Bd.returns rfl (Or.inr (Or.inr (Or.inr (Or.inr ⟨rfl, rfl, rfl⟩)))) (hb hby d15_6) hr
  · show Qnf1 Z  h0 n0 _ T2.heap _
    rw [e2]
    exact ⟨b2, k2, N1, K3, sz_b2, V2, rfl⟩
theorem ef_nf2 (m : MethodId)  : entryFrame m #[(.int (2 : Int32))] 1 = mkF m 0 #[.val (.int (2 : Int32))] [] := by first | (simp [entryFrame, mkF, argsToLocals, Value.category]; done) | rfl
def Qnf2 (Z : State)  (h0 : Heap) (n0 : Nat) (v : Option Value) (h : Heap) (L : List Loc) : Prop := ∃ (bb : Addr) (k0 : ClassId), Fr n0 L ∧ Keep h0 h [] ∧ h0.size ≤ bb ∧ Arv Z h bb k0 .byte (4 : Int32) [(.int (0 : Int32)), (.int (0 : Int32)), (.int (0 : Int32)), (.int (0 : Int32))] (.int (0 : Int32)) ∧ (v = some (.ref bb))
set_option maxRecDepth 65536 in
set_option maxHeartbeats 40000000 in
theorem rmNf2 (l : Launch) (Z : State) (a0 : Array Value) (hw : ∀ d ∈ tables_1, d.before a0 Z = true) (ws : List Jvm.Cond)  (h0 : Heap) (n0 : Nat) (Z0 : n0 ≤ h0.size)  :
    MetFree l (⟨"java/lang/StringUTF16", "newBytesFor", "(I)[B"⟩ : MethodName) (head1 (Jvm.Cond.code (⟨"java/lang/StringUTF16", "newBytesFor", "(I)[B"⟩ : MethodName) jdk_52_method_2_code 1 (some (.array .byte)) :: ws) ({ frames := 1, cells := 1, slots := 4, locals := 12 } : Room)) (fun a U => a = #[(.int (2 : Int32))] ∧ Z.Warmed39 U.vm ∧ U.heap = h0) (fun _ _ _ _ _ => True) (fun _ U o U' => ∃ v L, o = .returned v ∧ Qnf2 Z  h0 n0 v U'.heap L ∧ FrameEnd U o U' L ({ frames := 1, cells := 1, slots := 4, locals := 12 } : Room).cells ({ frames := 1, cells := 1, slots := 4, locals := 12 } : Room).slots) := by
  refine MetFree.of_bodySF (plainFor_of_name own_pn_6) hisR ?_
  intro p e s m args below meth c s₁ Bd hml0 hP hK
  obtain ⟨rfl, hZ, hh⟩ := hP
  have hx := Bd.exec
  have hby := Bd.bytes
  have hml : c.maxLocals = 1 := hml0
  have hown : s.vm.findClass "java/lang/StringUTF16" = some m.cls := findClass_of_methodNamed Bd.named
  have hnm := (name_of_methodNamed Bd.named Bd.method).1
  have X0 : Stand p l e ({ frames := 1, cells := 1, slots := 4, locals := 12 } : Room) s m #[(.int (2 : Int32))] below meth c s₁ [] 0 0 := Stand.of_body Bd
  have e0 : s₁.heap = h0 := by rw [← hh, Bd.state]; rfl
  have N0 := Fr.nil n0
  have pre0 : ∀ t, Steps p.tables e below (s₁.setTop (mkF m 0 #[.val (.int (2 : Int32))] [])) t → Steps p.tables e below (s₁.setTop (entryFrame m #[(.int (2 : Int32))] 1)) t := fun t k => castTop (ef_nf2 m ) k
  obtain ⟨_, _, ⟨T1, L1, k1, n1⟩, -, X1, ⟨Lc1, hQ1, l1, y1, z1⟩, st1⟩ := Jvm.LawKit.callS X0 hx (y := (⟨"java/lang/StringUTF16", "newBytesLength", "(I)I"⟩ : MethodName)) hown (mvT hZ (own_k hw 70 rfl)) (mvT hZ (own_k hw 71 rfl)) (mvT hZ (own_k hw 22 rfl)) (mvT hZ (own_k hw 72 rfl)) (by decide) (backOf (W := 0) (rmNl2 l Z a0 hw []  h0 n0 Z0 ) hZ (own_k hw 72 rfl) (own_k hw 22 rfl) (by decide) (by decide)) (g := (mkF m 1 #[.val (.int (2 : Int32))] [(.int (2 : Int32))])) rfl (by rw [hml]; rfl) (argsL := [(.int (2 : Int32))]) (rest := []) (lenOf own_pd_6 rfl) rfl (by show 2 * 0 + _ ≤ _; exact Nat.le_of_eq rfl) (hb hby d15_1) (fun _ _ => ⟨rfl, e0, (by decide : 0 + 0 ≤ _), (by decide : 0 + 0 ≤ _)⟩)
  dsimp only [Pt.U, Pt.locs, Pt.cells, Pt.slots] at X1 l1 y1 z1 st1 hQ1
  subst l1
  subst y1 z1
  obtain ⟨Nq1, eh1, hv1⟩ := hQ1
  have N1 := Fr.app N0 Nq1
  subst hv1
  obtain ⟨T2, h2, k2, X2, e2, E2, A2, st2⟩ := newP X1 hx hZ (own_k hw 24 rfl) eh1 (g := (mkF m 4 #[.val (.int (2 : Int32))] [(.int (4 : Int32))])) rfl (hb hby d15_4) rfl (by decide) (cap := 4) (by decide) (by decide) (by decide) (by decide)
  obtain ⟨b2, g2⟩ : ∃ z, z = h0.size := ⟨_, rfl⟩
  rw [← g2] at A2 st2
  have g_b2 : n0 ≤ b2 := Nat.le_trans Z0 (Nat.le_of_eq g2.symm)
  have sz_b2 : h0.size ≤ b2 := Nat.le_trans (Keep.refl h0 []).1 (Nat.le_of_eq g2.symm)
  have K3 : Keep h0 h2 [] := (Keep.refl h0 []).ext E2
  have V2 : Arv Z h2 b2 k2 .byte (4 : Int32) [(.int (0 : Int32)), (.int (0 : Int32)), (.int (0 : Int32)), (.int (0 : Int32))] (.int (0 : Int32)) := (Arv.new A2 (by decide)).pad (pad_rep [] (.int (0 : Int32)) 4)
  obtain ⟨fs, hr, hrun, hended, hW, hsame⟩ := X2.leave (v := (some (.ref b2))) (fun h => by rw [Bd.returns] at h; cases h)
  refine ⟨_, _, pre0 _ ?_, hrun, hended, _, _, rfl, ?_, ⟨_, rfl⟩, hW, hsame.mono (by decide) (by decide)⟩
  · show Steps p.tables e below (s₁.setTop (mkF m 0 #[.val (.int (2 : Int32))] [])) _
    refine XS.iloadN X0.here hx rfl (hb hby d15_0) rfl ?_
    show Steps p.tables e below (s₁.setTop (mkF m 1 #[.val (.int (2 : Int32))] [(.int (2 : Int32))])) _
    refine st1 _ ?_
    show Steps p.tables e below (T1.setTop (mkF m 4 #[.val (.int (2 : Int32))] [(.int (4 : Int32))])) _
    refine st2 _ ?_
    show Steps p.tables e below (T2.setTop (mkF m 6 #[.val (.int (2 : Int32))] [(.ref b2)])) _
    exact retOut X2 hx Bd.returns rfl (Or.inr (Or.inr (Or.inr (Or.inr ⟨rfl, rfl, rfl⟩)))) (hb hby d15_6) hr
  · show Qnf2 Z  h0 n0 _ T2.heap _
    rw [e2]
    exact ⟨b2, k2, N1, K3, sz_b2, V2, rfl⟩
theorem d17_0 : decode jdk_52_method_4_code 0 = .ok (.getstatic 44, 3) := by decide +kernel
theorem d17_3 : decode jdk_52_method_4_code 3 = .ok (.ifCond .ne 25, 3) := by decide +kernel
theorem d17_28 : decode jdk_52_method_4_code 28 = .ok (.iload_n 1, 1) := by decide +kernel
theorem d17_29 : decode jdk_52_method_4_code 29 = .ok (.iconst 1, 1) := by decide +kernel
theorem d17_30 : decode jdk_52_method_4_code 30 = .ok (.ishl, 1) := by decide +kernel
theorem d17_31 : decode jdk_52_method_4_code 31 = .ok (.istore_n 1, 1) := by decide +kernel
theorem d17_32 : decode jdk_52_method_4_code 32 = .ok (.aload_n 0, 1) := by decide +kernel
theorem d17_33 : decode jdk_52_method_4_code 33 = .ok (.iload_n 1, 1) := by decide +kernel
theorem d17_34 : decode jdk_52_method_4_code 34 = .ok (.iinc 1 1, 3) := by decide +kernel
theorem d17_37 : decode jdk_52_method_4_code 37 = .ok (.iload_n 2, 1) := by decide +kernel
theorem d17_38 : decode jdk_52_method_4_code 38 = .ok (.getstatic 59, 3) := by decide +kernel
theorem d17_41 : decode jdk_52_method_4_code 41 = .ok (.ishr, 1) := by decide +kernel
theorem d17_42 : decode jdk_52_method_4_code 42 = .ok (.i2b, 1) := by decide +kernel
theorem d17_43 : decode jdk_52_method_4_code 43 = .ok (.bastore, 1) := by decide +kernel
theorem d17_44 : decode jdk_52_method_4_code 44 = .ok (.aload_n 0, 1) := by decide +kernel
theorem d17_45 : decode jdk_52_method_4_code 45 = .ok (.iload_n 1, 1) := by decide +kernel
theorem d17_46 : decode jdk_52_method_4_code 46 = .ok (.iload_n 2, 1) := by decide +kernel
theorem d17_47 : decode jdk_52_method_4_code 47 = .ok (.getstatic 63, 3) := by decide +kernel
theorem d17_50 : decode jdk_52_method_4_code 50 = .ok (.ishr, 1) := by decide +kernel
theorem d17_51 : decode jdk_52_method_4_code 51 = .ok (.i2b, 1) := by decide +kernel
theorem d17_52 : decode jdk_52_method_4_code 52 = .ok (.bastore, 1) := by decide +kernel
theorem d17_53 : decode jdk_52_method_4_code 53 = .ok (.return_, 1) := by decide +kernel
theorem ef_pu20 (m : MethodId) (a1 : Addr) (ch : Int32) : entryFrame m #[(.ref a1), (.int (0 : Int32)), (.int ch)] 3 = mkF m 0 #[.val (.ref a1), .val (.int (0 : Int32)), .val (.int ch)] [] := by first | (simp [entryFrame, mkF, argsToLocals, Value.category]; done) | rfl
def Qpu20 (Z : State) (a1 : Addr) (kk : ClassId) (b0 : Int32) (b1 : Int32) (ch : Int32) (h0 : Heap) (n0 : Nat) (v : Option Value) (h : Heap) (L : List Loc) : Prop := Fr n0 L ∧ Keep h0 h [a1] ∧ Arv Z h a1 kk .byte (2 : Int32) [(.int (((ch >>> ((0 : Int32) &&& 31)).toInt8.toInt32).toInt8.toInt32)), (.int (((ch >>> ((8 : Int32) &&& 31)).toInt8.toInt32).toInt8.toInt32))] (.int (0 : Int32)) ∧ (v = none)
set_option maxRecDepth 65536 in
set_option maxHeartbeats 40000000 in
theorem rmPu20 (l : Launch) (Z : State) (a0 : Array Value) (hw : ∀ d ∈ tables_1, d.before a0 Z = true) (ws : List Jvm.Cond) (a1 : Addr) (kk : ClassId) (b0 : Int32) (b1 : Int32) (ch : Int32) (h0 : Heap) (n0 : Nat) (Z0 : n0 ≤ h0.size) (hSa : Sta Z Z.heap "java/lang/StringUTF16" "$assertionsDisabled" "Z" (.int (1 : Int32))) (hSh : Sta Z Z.heap "java/lang/StringUTF16" "HI_BYTE_SHIFT" "I" (.int (0 : Int32))) (hSl : Sta Z Z.heap "java/lang/StringUTF16" "LO_BYTE_SHIFT" "I" (.int (8 : Int32))) (hO : Old Z n0 h0) (hV : Arv Z h0 a1 kk .byte (2 : Int32) [(.int b0), (.int b1)] (.int (0 : Int32))) (hG1 : n0 ≤ a1) :
    MetFree l (⟨"java/lang/StringUTF16", "putChar", "([BII)V"⟩ : MethodName) (head1 (Jvm.Cond.code (⟨"java/lang/StringUTF16", "putChar", "([BII)V"⟩ : MethodName) jdk_52_method_4_code 3 none :: ws) ({ frames := 0, cells := 0, slots := 0, locals := 0 } : Room)) (fun a U => a = #[(.ref a1), (.int (0 : Int32)), (.int ch)] ∧ Z.Warmed39 U.vm ∧ U.heap = h0) (fun _ _ _ _ _ => True) (fun _ U o U' => ∃ v L, o = .returned v ∧ Qpu20 Z a1 kk b0 b1 ch h0 n0 v U'.heap L ∧ FrameEnd U o U' L ({ frames := 0, cells := 0, slots := 0, locals := 0 } : Room).cells ({ frames := 0, cells := 0, slots := 0, locals := 0 } : Room).slots) := by
  refine MetFree.of_bodySF (plainFor_of_name own_pn_6) hisR ?_
  intro p e s m args below meth c s₁ Bd hml0 hP hK
  obtain ⟨rfl, hZ, hh⟩ := hP
  have hx := Bd.exec
  have hby := Bd.bytes
  have hml : c.maxLocals = 3 := hml0
  have hown : s.vm.findClass "java/lang/StringUTF16" = some m.cls := findClass_of_methodNamed Bd.named
  have hnm := (name_of_methodNamed Bd.named Bd.method).1
  have X0 : Stand p l e ({ frames := 0, cells := 0, slots := 0, locals := 0 } : Room) s m #[(.ref a1), (.int (0 : Int32)), (.int ch)] below meth c s₁ [] 0 0 := Stand.of_body Bd
  have e0 : s₁.heap = h0 := by rw [← hh, Bd.state]; rfl
  have N0 := Fr.nil n0
  have pre0 : ∀ t, Steps p.tables e below (s₁.setTop (mkF m 0 #[.val (.ref a1), .val (.int (0 : Int32)), .val (.int ch)] [])) t → Steps p.tables e below (s₁.setTop (entryFrame m #[(.ref a1), (.int (0 : Int32)), (.int ch)] 3)) t := fun t k => castTop (ef_pu20 m a1 ch) k
  obtain ⟨T1, X1, e1, st1⟩ := getS2 X0 hx hZ hown (host := "") (Or.inl (own_k hw 77 rfl)) Via.refl e0 (hSa.ext hO.2) (g := (mkF m 0 #[.val (.ref a1), .val (.int (0 : Int32)), .val (.int ch)] [])) rfl (hb hby d17_0)
  obtain ⟨T2, X2, e2, st2⟩ := getS2 X1 hx hZ hown (host := "") (Or.inl (own_k hw 78 rfl)) Via.refl e1 (hSh.ext hO.2) (g := (mkF m 38 #[.val (.ref a1), .val (.int (1 : Int32)), .val (.int ch)] [(.int ch), (.int (0 : Int32)), (.ref a1)])) rfl (hb hby d17_38)
  obtain ⟨cl3, Ar3, q3, S3, M3, H3, G3⟩ := id hV
  have hin3 : ¬ ((0 : Int32) < 0 ∨ cl3.slots.size ≤ ((0 : Int32)).toNatClampNeg) := inb_of S3 ⟨by decide, by decide⟩
  obtain ⟨T3, h3, X3, e3, W3, st3⟩ := stB X2 hx hZ e2 Ar3 (j := (0 : Int32)) hin3 (g := (mkF m 43 #[.val (.ref a1), .val (.int (1 : Int32)), .val (.int ch)] [(.int ((ch >>> ((0 : Int32) &&& 31)).toInt8.toInt32)), (.int (0 : Int32)), (.ref a1)])) rfl rfl (hb hby d17_43)
  have N3 := Fr.snoc X3 N0 hG1
  have K4 : Keep h0 h3 [a1] := (Keep.refl h0 [a1]).wr W3 (Or.inl (List.mem_of_getElem? (i := 0) rfl))
  have V3 : Arv Z h3 a1 kk .byte (2 : Int32) [(.int (((ch >>> ((0 : Int32) &&& 31)).toInt8.toInt32).toInt8.toInt32)), (.int b1)] (.int (0 : Int32)) := Arv.set Ar3 q3 S3 M3 H3 G3 (fits_nar_byte _) W3 0 rfl (Nat.le_of_ble_eq_true rfl)
  have f6 : Old Z n0 h3 := (hO.wr W3 hG1)
  obtain ⟨T5, X5, e5, st5⟩ := getS2 X3 hx hZ hown (host := "") (Or.inl (own_k hw 79 rfl)) Via.refl e3 (hSl.ext f6.2) (g := (mkF m 47 #[.val (.ref a1), .val (.int (1 : Int32)), .val (.int ch)] [(.int ch), (.int (1 : Int32)), (.ref a1)])) rfl (hb hby d17_47)
  obtain ⟨cl7, Ar7, q7, S7, M7, H7, G7⟩ := id V3
  have hin7 : ¬ ((1 : Int32) < 0 ∨ cl7.slots.size ≤ ((1 : Int32)).toNatClampNeg) := inb_of S7 ⟨by decide, by decide⟩
  obtain ⟨T7, h7, X7, e7, W7, st7⟩ := stB X5 hx hZ e5 Ar7 (j := (1 : Int32)) hin7 (g := (mkF m 52 #[.val (.ref a1), .val (.int (1 : Int32)), .val (.int ch)] [(.int ((ch >>> ((8 : Int32) &&& 31)).toInt8.toInt32)), (.int (1 : Int32)), (.ref a1)])) rfl rfl (hb hby d17_52)
  have N7 := Fr.snoc X7 N3 hG1
  have K8 : Keep h0 h7 [a1] := K4.wr W7 (Or.inl (List.mem_of_getElem? (i := 0) rfl))
  have V7 : Arv Z h7 a1 kk .byte (2 : Int32) [(.int (((ch >>> ((0 : Int32) &&& 31)).toInt8.toInt32).toInt8.toInt32)), (.int (((ch >>> ((8 : Int32) &&& 31)).toInt8.toInt32).toInt8.toInt32))] (.int (0 : Int32)) := Arv.set Ar7 q7 S7 M7 H7 G7 (fits_nar_byte _) W7 1 rfl (Nat.le_of_ble_eq_true rfl)
  obtain ⟨fs, hr, hrun, hended, hW, hsame⟩ := X7.leave (v := none) (fun _ => rfl)
  refine ⟨_, _, pre0 _ ?_, hrun, hended, _, _, rfl, ?_, ⟨_, rfl⟩, hW, hsame.mono (by decide) (by decide)⟩
  · show Steps p.tables e below (s₁.setTop (mkF m 0 #[.val (.ref a1), .val (.int (0 : Int32)), .val (.int ch)] [])) _
    refine st1 _ ?_
    show Steps p.tables e below (T1.setTop (mkF m 3 #[.val (.ref a1), .val (.int (0 : Int32)), .val (.int ch)] [(.int (1 : Int32))])) _
    refine XS.ifYes X1.here hx rfl (pc0 := 3) (pc' := 28) rfl (hb hby d17_3) rfl (by decide) (by decide) (by decide) ?_
    show Steps p.tables e below (T1.setTop (mkF m 28 #[.val (.ref a1), .val (.int (0 : Int32)), .val (.int ch)] [])) _
    refine XS.iloadN X1.here hx rfl (hb hby d17_28) rfl ?_
    show Steps p.tables e below (T1.setTop (mkF m 29 #[.val (.ref a1), .val (.int (0 : Int32)), .val (.int ch)] [(.int (0 : Int32))])) _
    refine XS.iconst X1.here hx rfl (hb hby d17_29) ?_
    show Steps p.tables e below (T1.setTop (mkF m 30 #[.val (.ref a1), .val (.int (0 : Int32)), .val (.int ch)] [(.int (1 : Int32)), (.int (0 : Int32))])) _
    refine XS.ishl X1.here hx rfl (hb hby d17_30) rfl ?_
    show Steps p.tables e below (T1.setTop (mkF m 31 #[.val (.ref a1), .val (.int (0 : Int32)), .val (.int ch)] [(.int (0 : Int32))])) _
    refine XS.istoreN X1.here hx rfl (hb hby d17_31) rfl (l' := #[.val (.ref a1), .val (.int (0 : Int32)), .val (.int ch)]) rfl ?_
    show Steps p.tables e below (T1.setTop (mkF m 32 #[.val (.ref a1), .val (.int (0 : Int32)), .val (.int ch)] [])) _
    refine XS.aloadN X1.here hx rfl (hb hby d17_32) rfl rfl ?_
    show Steps p.tables e below (T1.setTop (mkF m 33 #[.val (.ref a1), .val (.int (0 : Int32)), .val (.int ch)] [(.ref a1)])) _
    refine XS.iloadN X1.here hx rfl (hb hby d17_33) rfl ?_
    show Steps p.tables e below (T1.setTop (mkF m 34 #[.val (.ref a1), .val (.int (0 : Int32)), .val (.int ch)] [(.int (0 : Int32)), (.ref a1)])) _
    refine XS.iinc X1.here hx rfl (hb hby d17_34) rfl (l' := #[.val (.ref a1), .val (.int (1 : Int32)), .val (.int ch)]) rfl ?_
    show Steps p.tables e below (T1.setTop (mkF m 37 #[.val (.ref a1), .val (.int (1 : Int32)), .val (.int ch)] [(.int (0 : Int32)), (.ref a1)])) _
    refine XS.iloadN X1.here hx rfl (hb hby d17_37) rfl ?_
    show Steps p.tables e below (T1.setTop (mkF m 38 #[.val (.ref a1), .val (.int (1 : Int32)), .val (.int ch)] [(.int ch), (.int (0 : Int32)), (.ref a1)])) _
    refine st2 _ ?_
    show Steps p.tables e below (T2.setTop (mkF m 41 #[.val (.ref a1), .val (.int (1 : Int32)), .val (.int ch)] [(.int (0 : Int32)), (.int ch), (.int (0 : Int32)), (.ref a1)])) _
    refine XS.ishr X2.here hx rfl (hb hby d17_41) rfl ?_
    show Steps p.tables e below (T2.setTop (mkF m 42 #[.val (.ref a1), .val (.int (1 : Int32)), .val (.int ch)] [(.int (ch >>> ((0 : Int32) &&& 31))), (.int (0 : Int32)), (.ref a1)])) _
    refine XS.i2b X2.here hx rfl (hb hby d17_42) rfl ?_
    show Steps p.tables e below (T2.setTop (mkF m 43 #[.val (.ref a1), .val (.int (1 : Int32)), .val (.int ch)] [(.int ((ch >>> ((0 : Int32) &&& 31)).toInt8.toInt32)), (.int (0 : Int32)), (.ref a1)])) _
    refine st3 _ ?_
    show Steps p.tables e below (T3.setTop (mkF m 44 #[.val (.ref a1), .val (.int (1 : Int32)), .val (.int ch)] [])) _
    refine XS.aloadN X3.here hx rfl (hb hby d17_44) rfl rfl ?_
    show Steps p.tables e below (T3.setTop (mkF m 45 #[.val (.ref a1), .val (.int (1 : Int32)), .val (.int ch)] [(.ref a1)])) _
    refine XS.iloadN X3.here hx rfl (hb hby d17_45) rfl ?_
    show Steps p.tables e below (T3.setTop (mkF m 46 #[.val (.ref a1), .val (.int (1 : Int32)), .val (.int ch)] [(.int (1 : Int32)), (.ref a1)])) _
    refine XS.iloadN X3.here hx rfl (hb hby d17_46) rfl ?_
    show Steps p.tables e below (T3.setTop (mkF m 47 #[.val (.ref a1), .val (.int (1 : Int32)), .val (.int ch)] [(.int ch), (.int (1 : Int32)), (.ref a1)])) _
    refine st5 _ ?_
    show Steps p.tables e below (T5.setTop (mkF m 50 #[.val (.ref a1), .val (.int (1 : Int32)), .val (.int ch)] [(.int (8 : Int32)), (.int ch), (.int (1 : Int32)), (.ref a1)])) _
    refine XS.ishr X5.here hx rfl (hb hby d17_50) rfl ?_
    show Steps p.tables e below (T5.setTop (mkF m 51 #[.val (.ref a1), .val (.int (1 : Int32)), .val (.int ch)] [(.int (ch >>> ((8 : Int32) &&& 31))), (.int (1 : Int32)), (.ref a1)])) _
    refine XS.i2b X5.here hx rfl (hb hby d17_51) rfl ?_
    show Steps p.tables e below (T5.setTop (mkF m 52 #[.val (.ref a1), .val (.int (1 : Int32)), .val (.int ch)] [(.int ((ch >>> ((8 : Int32) &&& 31)).toInt8.toInt32)), (.int (1 : Int32)), (.ref a1)])) _
    refine st7 _ ?_
    show Steps p.tables e below (T7.setTop (mkF m 53 #[.val (.ref a1), .val (.int (1 : Int32)), .val (.int ch)] [])) _
    exact X7.returnOut hx Bd.returns (hb hby d17_53) hr
  · show Qpu20 Z a1 kk b0 b1 ch h0 n0 _ T7.heap _
    rw [e7]
    exact ⟨N7, K8, V7, rfl⟩
theorem ef_pu40 (m : MethodId) (a1 : Addr) (ch : Int32) : entryFrame m #[(.ref a1), (.int (0 : Int32)), (.int ch)] 3 = mkF m 0 #[.val (.ref a1), .val (.int (0 : Int32)), .val (.int ch)] [] := by first | (simp [entryFrame, mkF, argsToLocals, Value.category]; done) | rfl
def Qpu40 (Z : State) (a1 : Addr) (kk : ClassId) (b0 : Int32) (b1 : Int32) (b2 : Int32) (b3 : Int32) (ch : Int32) (h0 : Heap) (n0 : Nat) (v : Option Value) (h : Heap) (L : List Loc) : Prop := Fr n0 L ∧ Keep h0 h [a1] ∧ Arv Z h a1 kk .byte (4 : Int32) [(.int (((ch >>> ((0 : Int32) &&& 31)).toInt8.toInt32).toInt8.toInt32)), (.int (((ch >>> ((8 : Int32) &&& 31)).toInt8.toInt32).toInt8.toInt32)), (.int b2), (.int b3)] (.int (0 : Int32)) ∧ (v = none)
set_option maxRecDepth 65536 in
set_option maxHeartbeats 40000000 in
theorem rmPu40 (l : Launch) (Z : State) (a0 : Array Value) (hw : ∀ d ∈ tables_1, d.before a0 Z = true) (ws : List Jvm.Cond) (a1 : Addr) (kk : ClassId) (b0 : Int32) (b1 : Int32) (b2 : Int32) (b3 : Int32) (ch : Int32) (h0 : Heap) (n0 : Nat) (Z0 : n0 ≤ h0.size) (hSa : Sta Z Z.heap "java/lang/StringUTF16" "$assertionsDisabled" "Z" (.int (1 : Int32))) (hSh : Sta Z Z.heap "java/lang/StringUTF16" "HI_BYTE_SHIFT" "I" (.int (0 : Int32))) (hSl : Sta Z Z.heap "java/lang/StringUTF16" "LO_BYTE_SHIFT" "I" (.int (8 : Int32))) (hO : Old Z n0 h0) (hV : Arv Z h0 a1 kk .byte (4 : Int32) [(.int b0), (.int b1), (.int b2), (.int b3)] (.int (0 : Int32))) (hG1 : n0 ≤ a1) :
    MetFree l (⟨"java/lang/StringUTF16", "putChar", "([BII)V"⟩ : MethodName) (head1 (Jvm.Cond.code (⟨"java/lang/StringUTF16", "putChar", "([BII)V"⟩ : MethodName) jdk_52_method_4_code 3 none :: ws) ({ frames := 0, cells := 0, slots := 0, locals := 0 } : Room)) (fun a U => a = #[(.ref a1), (.int (0 : Int32)), (.int ch)] ∧ Z.Warmed39 U.vm ∧ U.heap = h0) (fun _ _ _ _ _ => True) (fun _ U o U' => ∃ v L, o = .returned v ∧ Qpu40 Z a1 kk b0 b1 b2 b3 ch h0 n0 v U'.heap L ∧ FrameEnd U o U' L ({ frames := 0, cells := 0, slots := 0, locals := 0 } : Room).cells ({ frames := 0, cells := 0, slots := 0, locals := 0 } : Room).slots) := by
  refine MetFree.of_bodySF (plainFor_of_name own_pn_6) hisR ?_
  intro p e s m args below meth c s₁ Bd hml0 hP hK
  obtain ⟨rfl, hZ, hh⟩ := hP
  have hx := Bd.exec
  have hby := Bd.bytes
  have hml : c.maxLocals = 3 := hml0
  have hown : s.vm.findClass "java/lang/StringUTF16" = some m.cls := findClass_of_methodNamed Bd.named
  have hnm := (name_of_methodNamed Bd.named Bd.method).1
  have X0 : Stand p l e ({ frames := 0, cells := 0, slots := 0, locals := 0 } : Room) s m #[(.ref a1), (.int (0 : Int32)), (.int ch)] below meth c s₁ [] 0 0 := Stand.of_body Bd
  have e0 : s₁.heap = h0 := by rw [← hh, Bd.state]; rfl
  have N0 := Fr.nil n0
  have pre0 : ∀ t, Steps p.tables e below (s₁.setTop (mkF m 0 #[.val (.ref a1), .val (.int (0 : Int32)), .val (.int ch)] [])) t → Steps p.tables e below (s₁.setTop (entryFrame m #[(.ref a1), (.int (0 : Int32)), (.int ch)] 3)) t := fun t k => castTop (ef_pu40 m a1 ch) k
  obtain ⟨T1, X1, e1, st1⟩ := getS2 X0 hx hZ hown (host := "") (Or.inl (own_k hw 77 rfl)) Via.refl e0 (hSa.ext hO.2) (g := (mkF m 0 #[.val (.ref a1), .val (.int (0 : Int32)), .val (.int ch)] [])) rfl (hb hby d17_0)
  obtain ⟨T2, X2, e2, st2⟩ := getS2 X1 hx hZ hown (host := "") (Or.inl (own_k hw 78 rfl)) Via.refl e1 (hSh.ext hO.2) (g := (mkF m 38 #[.val (.ref a1), .val (.int (1 : Int32)), .val (.int ch)] [(.int ch), (.int (0 : Int32)), (.ref a1)])) rfl (hb hby d17_38)
  obtain ⟨cl3, Ar3, q3, S3, M3, H3, G3⟩ := id hV
  have hin3 : ¬ ((0 : Int32) < 0 ∨ cl3.slots.size ≤ ((0 : Int32)).toNatClampNeg) := inb_of S3 ⟨by decide, by decide⟩
  obtain ⟨T3, h3, X3, e3, W3, st3⟩ := stB X2 hx hZ e2 Ar3 (j := (0 : Int32)) hin3 (g := (mkF m 43 #[.val (.ref a1), .val (.int (1 : Int32)), .val (.int ch)] [(.int ((ch >>> ((0 : Int32) &&& 31)).toInt8.toInt32)), (.int (0 : Int32)), (.ref a1)])) rfl rfl (hb hby d17_43)
  have N3 := Fr.snoc X3 N0 hG1
  have K4 : Keep h0 h3 [a1] := (Keep.refl h0 [a1]).wr W3 (Or.inl (List.mem_of_getElem? (i := 0) rfl))
  have V3 : Arv Z h3 a1 kk .byte (4 : Int32) [(.int (((ch >>> ((0 : Int32) &&& 31)).toInt8.toInt32).toInt8.toInt32)), (.int b1), (.int b2), (.int b3)] (.int (0 : Int32)) := Arv.set Ar3 q3 S3 M3 H3 G3 (fits_nar_byte _) W3 0 rfl (Nat.le_of_ble_eq_true rfl)
  have f6 : Old Z n0 h3 := (hO.wr W3 hG1)
  obtain ⟨T5, X5, e5, st5⟩ := getS2 X3 hx hZ hown (host := "") (Or.inl (own_k hw 79 rfl)) Via.refl e3 (hSl.ext f6.2) (g := (mkF m 47 #[.val (.ref a1), .val (.int (1 : Int32)), .val (.int ch)] [(.int ch), (.int (1 : Int32)), (.ref a1)])) rfl (hb hby d17_47)
  obtain ⟨cl7, Ar7, q7, S7, M7, H7, G7⟩ := id V3
  have hin7 : ¬ ((1 : Int32) < 0 ∨ cl7.slots.size ≤ ((1 : Int32)).toNatClampNeg) := inb_of S7 ⟨by decide, by decide⟩
  obtain ⟨T7, h7, X7, e7, W7, st7⟩ := stB X5 hx hZ e5 Ar7 (j := (1 : Int32)) hin7 (g := (mkF m 52 #[.val (.ref a1), .val (.int (1 : Int32)), .val (.int ch)] [(.int ((ch >>> ((8 : Int32) &&& 31)).toInt8.toInt32)), (.int (1 : Int32)), (.ref a1)])) rfl rfl (hb hby d17_52)
  have N7 := Fr.snoc X7 N3 hG1
  have K8 : Keep h0 h7 [a1] := K4.wr W7 (Or.inl (List.mem_of_getElem? (i := 0) rfl))
  have V7 : Arv Z h7 a1 kk .byte (4 : Int32) [(.int (((ch >>> ((0 : Int32) &&& 31)).toInt8.toInt32).toInt8.toInt32)), (.int (((ch >>> ((8 : Int32) &&& 31)).toInt8.toInt32).toInt8.toInt32)), (.int b2), (.int b3)] (.int (0 : Int32)) := Arv.set Ar7 q7 S7 M7 H7 G7 (fits_nar_byte _) W7 1 rfl (Nat.le_of_ble_eq_true rfl)
  obtain ⟨fs, hr, hrun, hended, hW, hsame⟩ := X7.leave (v := none) (fun _ => rfl)
  refine ⟨_, _, pre0 _ ?_, hrun, hended, _, _, rfl, ?_, ⟨_, rfl⟩, hW, hsame.mono (by decide) (by decide)⟩
  · show Steps p.tables e below (s₁.setTop (mkF m 0 #[.val (.ref a1), .val (.int (0 : Int32)), .val (.int ch)] [])) _
    refine st1 _ ?_
    show Steps p.tables e below (T1.setTop (mkF m 3 #[.val (.ref a1), .val (.int (0 : Int32)), .val (.int ch)] [(.int (1 : Int32))])) _
    refine XS.ifYes X1.here hx rfl (pc0 := 3) (pc' := 28) rfl (hb hby d17_3) rfl (by decide) (by decide) (by decide) ?_
    show Steps p.tables e below (T1.setTop (mkF m 28 #[.val (.ref a1), .val (.int (0 : Int32)), .val (.int ch)] [])) _
    refine XS.iloadN X1.here hx rfl (hb hby d17_28) rfl ?_
    show Steps p.tables e below (T1.setTop (mkF m 29 #[.val (.ref a1), .val (.int (0 : Int32)), .val (.int ch)] [(.int (0 : Int32))])) _
    refine XS.iconst X1.here hx rfl (hb hby d17_29) ?_
    show Steps p.tables e below (T1.setTop (mkF m 30 #[.val (.ref a1), .val (.int (0 : Int32)), .val (.int ch)] [(.int (1 : Int32)), (.int (0 : Int32))])) _
    refine XS.ishl X1.here hx rfl (hb hby d17_30) rfl ?_
    show Steps p.tables e below (T1.setTop (mkF m 31 #[.val (.ref a1), .val (.int (0 : Int32)), .val (.int ch)] [(.int (0 : Int32))])) _
    refine XS.istoreN X1.here hx rfl (hb hby d17_31) rfl (l' := #[.val (.ref a1), .val (.int (0 : Int32)), .val (.int ch)]) rfl ?_
    show Steps p.tables e below (T1.setTop (mkF m 32 #[.val (.ref a1), .val (.int (0 : Int32)), .val (.int ch)] [])) _
    refine XS.aloadN X1.here hx rfl (hb hby d17_32) rfl rfl ?_
    show Steps p.tables e below (T1.setTop (mkF m 33 #[.val (.ref a1), .val (.int (0 : Int32)), .val (.int ch)] [(.ref a1)])) _
    refine XS.iloadN X1.here hx rfl (hb hby d17_33) rfl ?_
    show Steps p.tables e below (T1.setTop (mkF m 34 #[.val (.ref a1), .val (.int (0 : Int32)), .val (.int ch)] [(.int (0 : Int32)), (.ref a1)])) _
    refine XS.iinc X1.here hx rfl (hb hby d17_34) rfl (l' := #[.val (.ref a1), .val (.int (1 : Int32)), .val (.int ch)]) rfl ?_
    show Steps p.tables e below (T1.setTop (mkF m 37 #[.val (.ref a1), .val (.int (1 : Int32)), .val (.int ch)] [(.int (0 : Int32)), (.ref a1)])) _
    refine XS.iloadN X1.here hx rfl (hb hby d17_37) rfl ?_
    show Steps p.tables e below (T1.setTop (mkF m 38 #[.val (.ref a1), .val (.int (1 : Int32)), .val (.int ch)] [(.int ch), (.int (0 : Int32)), (.ref a1)])) _
    refine st2 _ ?_
    show Steps p.tables e below (T2.setTop (mkF m 41 #[.val (.ref a1), .val (.int (1 : Int32)), .val (.int ch)] [(.int (0 : Int32)), (.int ch), (.int (0 : Int32)), (.ref a1)])) _
    refine XS.ishr X2.here hx rfl (hb hby d17_41) rfl ?_
    show Steps p.tables e below (T2.setTop (mkF m 42 #[.val (.ref a1), .val (.int (1 : Int32)), .val (.int ch)] [(.int (ch >>> ((0 : Int32) &&& 31))), (.int (0 : Int32)), (.ref a1)])) _
    refine XS.i2b X2.here hx rfl (hb hby d17_42) rfl ?_
    show Steps p.tables e below (T2.setTop (mkF m 43 #[.val (.ref a1), .val (.int (1 : Int32)), .val (.int ch)] [(.int ((ch >>> ((0 : Int32) &&& 31)).toInt8.toInt32)), (.int (0 : Int32)), (.ref a1)])) _
    refine st3 _ ?_
    show Steps p.tables e below (T3.setTop (mkF m 44 #[.val (.ref a1), .val (.int (1 : Int32)), .val (.int ch)] [])) _
    refine XS.aloadN X3.here hx rfl (hb hby d17_44) rfl rfl ?_
    show Steps p.tables e below (T3.setTop (mkF m 45 #[.val (.ref a1), .val (.int (1 : Int32)), .val (.int ch)] [(.ref a1)])) _
    refine XS.iloadN X3.here hx rfl (hb hby d17_45) rfl ?_
    show Steps p.tables e below (T3.setTop (mkF m 46 #[.val (.ref a1), .val (.int (1 : Int32)), .val (.int ch)] [(.int (1 : Int32)), (.ref a1)])) _
    refine XS.iloadN X3.here hx rfl (hb hby d17_46) rfl ?_
    show Steps p.tables e below (T3.setTop (mkF m 47 #[.val (.ref a1), .val (.int (1 : Int32)), .val (.int ch)] [(.int ch), (.int (1 : Int32)), (.ref a1)])) _
    refine st5 _ ?_
    show Steps p.tables e below (T5.setTop (mkF m 50 #[.val (.ref a1), .val (.int (1 : Int32)), .val (.int ch)] [(.int (8 : Int32)), (.int ch), (.int (1 : Int32)), (.ref a1)])) _
    refine XS.ishr X5.here hx rfl (hb hby d17_50) rfl ?_
    show Steps p.tables e below (T5.setTop (mkF m 51 #[.val (.ref a1), .val (.int (1 : Int32)), .val (.int ch)] [(.int (ch >>> ((8 : Int32) &&& 31))), (.int (1 : Int32)), (.ref a1)])) _
    refine XS.i2b X5.here hx rfl (hb hby d17_51) rfl ?_
    show Steps p.tables e below (T5.setTop (mkF m 52 #[.val (.ref a1), .val (.int (1 : Int32)), .val (.int ch)] [(.int ((ch >>> ((8 : Int32) &&& 31)).toInt8.toInt32)), (.int (1 : Int32)), (.ref a1)])) _
    refine st7 _ ?_
    show Steps p.tables e below (T7.setTop (mkF m 53 #[.val (.ref a1), .val (.int (1 : Int32)), .val (.int ch)] [])) _
    exact X7.returnOut hx Bd.returns (hb hby d17_53) hr
  · show Qpu40 Z a1 kk b0 b1 b2 b3 ch h0 n0 _ T7.heap _
    rw [e7]
    exact ⟨N7, K8, V7, rfl⟩
theorem ef_pu41 (m : MethodId) (a1 : Addr) (ch : Int32) : entryFrame m #[(.ref a1), (.int (1 : Int32)), (.int ch)] 3 = mkF m 0 #[.val (.ref a1), .val (.int (1 : Int32)), .val (.int ch)] [] := by first | (simp [entryFrame, mkF, argsToLocals, Value.category]; done) | rfl
def Qpu41 (Z : State) (a1 : Addr) (kk : ClassId) (b0 : Int32) (b1 : Int32) (b2 : Int32) (b3 : Int32) (ch : Int32) (h0 : Heap) (n0 : Nat) (v : Option Value) (h : Heap) (L : List Loc) : Prop := Fr n0 L ∧ Keep h0 h [a1] ∧ Arv Z h a1 kk .byte (4 : Int32) [(.int b0), (.int b1), (.int (((ch >>> ((0 : Int32) &&& 31)).toInt8.toInt32).toInt8.toInt32)), (.int (((ch >>> ((8 : Int32) &&& 31)).toInt8.toInt32).toInt8.toInt32))] (.int (0 : Int32)) ∧ (v = none)
set_option maxRecDepth 65536 in
set_option maxHeartbeats 40000000 in
theorem rmPu41 (l : Launch) (Z : State) (a0 : Array Value) (hw : ∀ d ∈ tables_1, d.before a0 Z = true) (ws : List Jvm.Cond) (a1 : Addr) (kk : ClassId) (b0 : Int32) (b1 : Int32) (b2 : Int32) (b3 : Int32) (ch : Int32) (h0 : Heap) (n0 : Nat) (Z0 : n0 ≤ h0.size) (hSa : Sta Z Z.heap "java/lang/StringUTF16" "$assertionsDisabled" "Z" (.int (1 : Int32))) (hSh : Sta Z Z.heap "java/lang/StringUTF16" "HI_BYTE_SHIFT" "I" (.int (0 : Int32))) (hSl : Sta Z Z.heap "java/lang/StringUTF16" "LO_BYTE_SHIFT" "I" (.int (8 : Int32))) (hO : Old Z n0 h0) (hV : Arv Z h0 a1 kk .byte (4 : Int32) [(.int b0), (.int b1), (.int b2), (.int b3)] (.int (0 : Int32))) (hG1 : n0 ≤ a1) :
    MetFree l (⟨"java/lang/StringUTF16", "putChar", "([BII)V"⟩ : MethodName) (head1 (Jvm.Cond.code (⟨"java/lang/StringUTF16", "putChar", "([BII)V"⟩ : MethodName) jdk_52_method_4_code 3 none :: ws) ({ frames := 0, cells := 0, slots := 0, locals := 0 } : Room)) (fun a U => a = #[(.ref a1), (.int (1 : Int32)), (.int ch)] ∧ Z.Warmed39 U.vm ∧ U.heap = h0) (fun _ _ _ _ _ => True) (fun _ U o U' => ∃ v L, o = .returned v ∧ Qpu41 Z a1 kk b0 b1 b2 b3 ch h0 n0 v U'.heap L ∧ FrameEnd U o U' L ({ frames := 0, cells := 0, slots := 0, locals := 0 } : Room).cells ({ frames := 0, cells := 0, slots := 0, locals := 0 } : Room).slots) := by
  refine MetFree.of_bodySF (plainFor_of_name own_pn_6) hisR ?_
  intro p e s m args below meth c s₁ Bd hml0 hP hK
  obtain ⟨rfl, hZ, hh⟩ := hP
  have hx := Bd.exec
  have hby := Bd.bytes
  have hml : c.maxLocals = 3 := hml0
  have hown : s.vm.findClass "java/lang/StringUTF16" = some m.cls := findClass_of_methodNamed Bd.named
  have hnm := (name_of_methodNamed Bd.named Bd.method).1
  have X0 : Stand p l e ({ frames := 0, cells := 0, slots := 0, locals := 0 } : Room) s m #[(.ref a1), (.int (1 : Int32)), (.int ch)] below meth c s₁ [] 0 0 := Stand.of_body Bd
  have e0 : s₁.heap = h0 := by rw [← hh, Bd.state]; rfl
  have N0 := Fr.nil n0
  have pre0 : ∀ t, Steps p.tables e below (s₁.setTop (mkF m 0 #[.val (.ref a1), .val (.int (1 : Int32)), .val (.int ch)] [])) t → Steps p.tables e below (s₁.setTop (entryFrame m #[(.ref a1), (.int (1 : Int32)), (.int ch)] 3)) t := fun t k => castTop (ef_pu41 m a1 ch) k
  obtain ⟨T1, X1, e1, st1⟩ := getS2 X0 hx hZ hown (host := "") (Or.inl (own_k hw 77 rfl)) Via.refl e0 (hSa.ext hO.2) (g := (mkF m 0 #[.val (.ref a1), .val (.int (1 : Int32)), .val (.int ch)] [])) rfl (hb hby d17_0)
  obtain ⟨T2, X2, e2, st2⟩ := getS2 X1 hx hZ hown (host := "") (Or.inl (own_k hw 78 rfl)) Via.refl e1 (hSh.ext hO.2) (g := (mkF m 38 #[.val (.ref a1), .val (.int (3 : Int32)), .val (.int ch)] [(.int ch), (.int (2 : Int32)), (.ref a1)])) rfl (hb hby d17_38)
  obtain ⟨cl3, Ar3, q3, S3, M3, H3, G3⟩ := id hV
  have hin3 : ¬ ((2 : Int32) < 0 ∨ cl3.slots.size ≤ ((2 : Int32)).toNatClampNeg) := inb_of S3 ⟨by decide, by decide⟩
  obtain ⟨T3, h3, X3, e3, W3, st3⟩ := stB X2 hx hZ e2 Ar3 (j := (2 : Int32)) hin3 (g := (mkF m 43 #[.val (.ref a1), .val (.int (3 : Int32)), .val (.int ch)] [(.int ((ch >>> ((0 : Int32) &&& 31)).toInt8.toInt32)), (.int (2 : Int32)), (.ref a1)])) rfl rfl (hb hby d17_43)
  have N3 := Fr.snoc X3 N0 hG1
  have K4 : Keep h0 h3 [a1] := (Keep.refl h0 [a1]).wr W3 (Or.inl (List.mem_of_getElem? (i := 0) rfl))
  have V3 : Arv Z h3 a1 kk .byte (4 : Int32) [(.int b0), (.int b1), (.int (((ch >>> ((0 : Int32) &&& 31)).toInt8.toInt32).toInt8.toInt32)), (.int b3)] (.int (0 : Int32)) := Arv.set Ar3 q3 S3 M3 H3 G3 (fits_nar_byte _) W3 2 rfl (Nat.le_of_ble_eq_true rfl)
  have f6 : Old Z n0 h3 := (hO.wr W3 hG1)
  obtain ⟨T5, X5, e5, st5⟩ := getS2 X3 hx hZ hown (host := "") (Or.inl (own_k hw 79 rfl)) Via.refl e3 (hSl.ext f6.2) (g := (mkF m 47 #[.val (.ref a1), .val (.int (3 : Int32)), .val (.int ch)] [(.int ch), (.int (3 : Int32)), (.ref a1)])) rfl (hb hby d17_47)
  obtain ⟨cl7, Ar7, q7, S7, M7, H7, G7⟩ := id V3
  have hin7 : ¬ ((3 : Int32) < 0 ∨ cl7.slots.size ≤ ((3 : Int32)).toNatClampNeg) := inb_of S7 ⟨by decide, by decide⟩
  obtain ⟨T7, h7, X7, e7, W7, st7⟩ := stB X5 hx hZ e5 Ar7 (j := (3 : Int32)) hin7 (g := (mkF m 52 #[.val (.ref a1), .val (.int (3 : Int32)), .val (.int ch)] [(.int ((ch >>> ((8 : Int32) &&& 31)).toInt8.toInt32)), (.int (3 : Int32)), (.ref a1)])) rfl rfl (hb hby d17_52)
  have N7 := Fr.snoc X7 N3 hG1
  have K8 : Keep h0 h7 [a1] := K4.wr W7 (Or.inl (List.mem_of_getElem? (i := 0) rfl))
  have V7 : Arv Z h7 a1 kk .byte (4 : Int32) [(.int b0), (.int b1), (.int (((ch >>> ((0 : Int32) &&& 31)).toInt8.toInt32).toInt8.toInt32)), (.int (((ch >>> ((8 : Int32) &&& 31)).toInt8.toInt32).toInt8.toInt32))] (.int (0 : Int32)) := Arv.set Ar7 q7 S7 M7 H7 G7 (fits_nar_byte _) W7 3 rfl (Nat.le_of_ble_eq_true rfl)
  obtain ⟨fs, hr, hrun, hended, hW, hsame⟩ := X7.leave (v := none) (fun _ => rfl)
  refine ⟨_, _, pre0 _ ?_, hrun, hended, _, _, rfl, ?_, ⟨_, rfl⟩, hW, hsame.mono (by decide) (by decide)⟩
  · show Steps p.tables e below (s₁.setTop (mkF m 0 #[.val (.ref a1), .val (.int (1 : Int32)), .val (.int ch)] [])) _
    refine st1 _ ?_
    show Steps p.tables e below (T1.setTop (mkF m 3 #[.val (.ref a1), .val (.int (1 : Int32)), .val (.int ch)] [(.int (1 : Int32))])) _
    refine XS.ifYes X1.here hx rfl (pc0 := 3) (pc' := 28) rfl (hb hby d17_3) rfl (by decide) (by decide) (by decide) ?_
    show Steps p.tables e below (T1.setTop (mkF m 28 #[.val (.ref a1), .val (.int (1 : Int32)), .val (.int ch)] [])) _
    refine XS.iloadN X1.here hx rfl (hb hby d17_28) rfl ?_
    show Steps p.tables e below (T1.setTop (mkF m 29 #[.val (.ref a1), .val (.int (1 : Int32)), .val (.int ch)] [(.int (1 : Int32))])) _
    refine XS.iconst X1.here hx rfl (hb hby d17_29) ?_
    show Steps p.tables e below (T1.setTop (mkF m 30 #[.val (.ref a1), .val (.int (1 : Int32)), .val (.int ch)] [(.int (1 : Int32)), (.int (1 : Int32))])) _
    refine XS.ishl X1.here hx rfl (hb hby d17_30) rfl ?_
    show Steps p.tables e below (T1.setTop (mkF m 31 #[.val (.ref a1), .val (.int (1 : Int32)), .val (.int ch)] [(.int (2 : Int32))])) _
    refine XS.istoreN X1.here hx rfl (hb hby d17_31) rfl (l' := #[.val (.ref a1), .val (.int (2 : Int32)), .val (.int ch)]) rfl ?_
    show Steps p.tables e below (T1.setTop (mkF m 32 #[.val (.ref a1), .val (.int (2 : Int32)), .val (.int ch)] [])) _
    refine XS.aloadN X1.here hx rfl (hb hby d17_32) rfl rfl ?_
    show Steps p.tables e below (T1.setTop (mkF m 33 #[.val (.ref a1), .val (.int (2 : Int32)), .val (.int ch)] [(.ref a1)])) _
    refine XS.iloadN X1.here hx rfl (hb hby d17_33) rfl ?_
    show Steps p.tables e below (T1.setTop (mkF m 34 #[.val (.ref a1), .val (.int (2 : Int32)), .val (.int ch)] [(.int (2 : Int32)), (.ref a1)])) _
    refine XS.iinc X1.here hx rfl (hb hby d17_34) rfl (l' := #[.val (.ref a1), .val (.int (3 : Int32)), .val (.int ch)]) rfl ?_
    show Steps p.tables e below (T1.setTop (mkF m 37 #[.val (.ref a1), .val (.int (3 : Int32)), .val (.int ch)] [(.int (2 : Int32)), (.ref a1)])) _
    refine XS.iloadN X1.here hx rfl (hb hby d17_37) rfl ?_
    show Steps p.tables e below (T1.setTop (mkF m 38 #[.val (.ref a1), .val (.int (3 : Int32)), .val (.int ch)] [(.int ch), (.int (2 : Int32)), (.ref a1)])) _
    refine st2 _ ?_
    show Steps p.tables e below (T2.setTop (mkF m 41 #[.val (.ref a1), .val (.int (3 : Int32)), .val (.int ch)] [(.int (0 : Int32)), (.int ch), (.int (2 : Int32)), (.ref a1)])) _
    refine XS.ishr X2.here hx rfl (hb hby d17_41) rfl ?_
    show Steps p.tables e below (T2.setTop (mkF m 42 #[.val (.ref a1), .val (.int (3 : Int32)), .val (.int ch)] [(.int (ch >>> ((0 : Int32) &&& 31))), (.int (2 : Int32)), (.ref a1)])) _
    refine XS.i2b X2.here hx rfl (hb hby d17_42) rfl ?_
    show Steps p.tables e below (T2.setTop (mkF m 43 #[.val (.ref a1), .val (.int (3 : Int32)), .val (.int ch)] [(.int ((ch >>> ((0 : Int32) &&& 31)).toInt8.toInt32)), (.int (2 : Int32)), (.ref a1)])) _
    refine st3 _ ?_
    show Steps p.tables e below (T3.setTop (mkF m 44 #[.val (.ref a1), .val (.int (3 : Int32)), .val (.int ch)] [])) _
    refine XS.aloadN X3.here hx rfl (hb hby d17_44) rfl rfl ?_
    show Steps p.tables e below (T3.setTop (mkF m 45 #[.val (.ref a1), .val (.int (3 : Int32)), .val (.int ch)] [(.ref a1)])) _
    refine XS.iloadN X3.here hx rfl (hb hby d17_45) rfl ?_
    show Steps p.tables e below (T3.setTop (mkF m 46 #[.val (.ref a1), .val (.int (3 : Int32)), .val (.int ch)] [(.int (3 : Int32)), (.ref a1)])) _
    refine XS.iloadN X3.here hx rfl (hb hby d17_46) rfl ?_
    show Steps p.tables e below (T3.setTop (mkF m 47 #[.val (.ref a1), .val (.int (3 : Int32)), .val (.int ch)] [(.int ch), (.int (3 : Int32)), (.ref a1)])) _
    refine st5 _ ?_
    show Steps p.tables e below (T5.setTop (mkF m 50 #[.val (.ref a1), .val (.int (3 : Int32)), .val (.int ch)] [(.int (8 : Int32)), (.int ch), (.int (3 : Int32)), (.ref a1)])) _
    refine XS.ishr X5.here hx rfl (hb hby d17_50) rfl ?_
    show Steps p.tables e below (T5.setTop (mkF m 51 #[.val (.ref a1), .val (.int (3 : Int32)), .val (.int ch)] [(.int (ch >>> ((8 : Int32) &&& 31))), (.int (3 : Int32)), (.ref a1)])) _
    refine XS.i2b X5.here hx rfl (hb hby d17_51) rfl ?_
    show Steps p.tables e below (T5.setTop (mkF m 52 #[.val (.ref a1), .val (.int (3 : Int32)), .val (.int ch)] [(.int ((ch >>> ((8 : Int32) &&& 31)).toInt8.toInt32)), (.int (3 : Int32)), (.ref a1)])) _
    refine st7 _ ?_
    show Steps p.tables e below (T7.setTop (mkF m 53 #[.val (.ref a1), .val (.int (3 : Int32)), .val (.int ch)] [])) _
    exact X7.returnOut hx Bd.returns (hb hby d17_53) hr
  · show Qpu41 Z a1 kk b0 b1 b2 b3 ch h0 n0 _ T7.heap _
    rw [e7]
    exact ⟨N7, K8, V7, rfl⟩
theorem d14_0 : decode jdk_52_method_14_code 0 = .ok (.iload_n 2, 1) := by decide +kernel
theorem d14_1 : decode jdk_52_method_14_code 1 = .ok (.invokestatic 107, 3) := by decide +kernel
theorem own_pd_7 : parseMethodDescriptor "(I)[B" = some ⟨[.int], some (.array .byte)⟩ := by decide +kernel
theorem d14_4 : decode jdk_52_method_14_code 4 = .ok (.astore_n 3, 1) := by decide +kernel
theorem d14_5 : decode jdk_52_method_14_code 5 = .ok (.iconst 0, 1) := by decide +kernel
theorem d14_6 : decode jdk_52_method_14_code 6 = .ok (.istore 4, 2) := by decide +kernel
theorem d14_8 : decode jdk_52_method_14_code 8 = .ok (.iload 4, 2) := by decide +kernel
theorem d14_10 : decode jdk_52_method_14_code 10 = .ok (.iload_n 2, 1) := by decide +kernel
theorem d14_11 : decode jdk_52_method_14_code 11 = .ok (.if_icmp .ge 21, 3) := by decide +kernel
theorem d14_14 : decode jdk_52_method_14_code 14 = .ok (.aload_n 3, 1) := by decide +kernel
theorem d14_15 : decode jdk_52_method_14_code 15 = .ok (.iload 4, 2) := by decide +kernel
theorem d14_17 : decode jdk_52_method_14_code 17 = .ok (.aload_n 0, 1) := by decide +kernel
theorem d14_18 : decode jdk_52_method_14_code 18 = .ok (.iload_n 1, 1) := by decide +kernel
theorem d14_19 : decode jdk_52_method_14_code 19 = .ok (.caload, 1) := by decide +kernel
theorem d14_20 : decode jdk_52_method_14_code 20 = .ok (.invokestatic 111, 3) := by decide +kernel
theorem own_pd_8 : parseMethodDescriptor "([BII)V" = some ⟨[(.array .byte), .int, .int], none⟩ := by decide +kernel
theorem d14_23 : decode jdk_52_method_14_code 23 = .ok (.iinc 1 1, 3) := by decide +kernel
theorem d14_26 : decode jdk_52_method_14_code 26 = .ok (.iinc 4 1, 3) := by decide +kernel
theorem d14_29 : decode jdk_52_method_14_code 29 = .ok (.goto (-21), 3) := by decide +kernel
theorem d14_32 : decode jdk_52_method_14_code 32 = .ok (.aload_n 3, 1) := by decide +kernel
theorem d14_33 : decode jdk_52_method_14_code 33 = .ok (.areturn, 1) := by decide +kernel
theorem ef_tb1 (m : MethodId) (a1 : Addr) : entryFrame m #[(.ref a1), (.int (0 : Int32)), (.int (1 : Int32))] 5 = mkF m 0 #[.val (.ref a1), .val (.int (0 : Int32)), .val (.int (1 : Int32)), .unset, .unset] [] := by first | (simp [entryFrame, mkF, argsToLocals, Value.category]; done) | rfl
def Qtb1 (Z : State) (a1 : Addr) (kc : ClassId) (c0 : Int32) (h0 : Heap) (n0 : Nat) (v : Option Value) (h : Heap) (L : List Loc) : Prop := ∃ (bb : Addr) (k0 : ClassId), Fr n0 L ∧ Keep h0 h [] ∧ h0.size ≤ bb ∧ Arv Z h bb k0 .byte (2 : Int32) [(.int (((c0 >>> ((0 : Int32) &&& 31)).toInt8.toInt32).toInt8.toInt32)), (.int (((c0 >>> ((8 : Int32) &&& 31)).toInt8.toInt32).toInt8.toInt32))] (.int (0 : Int32)) ∧ (v = some (.ref bb))
set_option maxRecDepth 65536 in
set_option maxHeartbeats 40000000 in
theorem rmTb1 (l : Launch) (Z : State) (a0 : Array Value) (hw : ∀ d ∈ tables_1, d.before a0 Z = true) (ws : List Jvm.Cond) (a1 : Addr) (kc : ClassId) (c0 : Int32) (h0 : Heap) (n0 : Nat) (Z0 : n0 ≤ h0.size) (hSa : Sta Z Z.heap "java/lang/StringUTF16" "$assertionsDisabled" "Z" (.int (1 : Int32))) (hSh : Sta Z Z.heap "java/lang/StringUTF16" "HI_BYTE_SHIFT" "I" (.int (0 : Int32))) (hSl : Sta Z Z.heap "java/lang/StringUTF16" "LO_BYTE_SHIFT" "I" (.int (8 : Int32))) (hO : Old Z n0 h0) (hVc : Arv Z h0 a1 kc .char (1 : Int32) [(.int c0)] (.int (0 : Int32))) :
    MetFree l (⟨"java/lang/StringUTF16", "toBytes", "([CII)[B"⟩ : MethodName) (head1 (Jvm.Cond.code (⟨"java/lang/StringUTF16", "toBytes", "([CII)[B"⟩ : MethodName) jdk_52_method_14_code 5 (some (.array .byte)) :: ws) ({ frames := 2, cells := 1, slots := 2, locals := 24 } : Room)) (fun a U => a = #[(.ref a1), (.int (0 : Int32)), (.int (1 : Int32))] ∧ Z.Warmed39 U.vm ∧ U.heap = h0) (fun _ _ _ _ _ => True) (fun _ U o U' => ∃ v L, o = .returned v ∧ Qtb1 Z a1 kc c0 h0 n0 v U'.heap L ∧ FrameEnd U o U' L ({ frames := 2, cells := 1, slots := 2, locals := 24 } : Room).cells ({ frames := 2, cells := 1, slots := 2, locals := 24 } : Room).slots) := by
  refine MetFree.of_bodySF (plainFor_of_name own_pn_6) hisR ?_
  intro p e s m args below meth c s₁ Bd hml0 hP hK
  obtain ⟨rfl, hZ, hh⟩ := hP
  have hx := Bd.exec
  have hby := Bd.bytes
  have hml : c.maxLocals = 5 := hml0
  have hown : s.vm.findClass "java/lang/StringUTF16" = some m.cls := findClass_of_methodNamed Bd.named
  have hnm := (name_of_methodNamed Bd.named Bd.method).1
  have X0 : Stand p l e ({ frames := 2, cells := 1, slots := 2, locals := 24 } : Room) s m #[(.ref a1), (.int (0 : Int32)), (.int (1 : Int32))] below meth c s₁ [] 0 0 := Stand.of_body Bd
  have e0 : s₁.heap = h0 := by rw [← hh, Bd.state]; rfl
  have N0 := Fr.nil n0
  have pre0 : ∀ t, Steps p.tables e below (s₁.setTop (mkF m 0 #[.val (.ref a1), .val (.int (0 : Int32)), .val (.int (1 : Int32)), .unset, .unset] [])) t → Steps p.tables e below (s₁.setTop (entryFrame m #[(.ref a1), (.int (0 : Int32)), (.int (1 : Int32))] 5)) t := fun t k => castTop (ef_tb1 m a1) k
  obtain ⟨_, _, ⟨T1, L1, k1, n1⟩, -, X1, ⟨Lc1, hQ1, l1, y1, z1⟩, st1⟩ := Jvm.LawKit.callS X0 hx (y := (⟨"java/lang/StringUTF16", "newBytesFor", "(I)[B"⟩ : MethodName)) hown (mvT hZ (own_k hw 67 rfl)) (mvT hZ (own_k hw 68 rfl)) (mvT hZ (own_k hw 22 rfl)) (mvT hZ (own_k hw 69 rfl)) (by decide) (backOf (W := 0) (rmNf1 l Z a0 hw []  h0 n0 Z0 ) hZ (own_k hw 69 rfl) (own_k hw 22 rfl) (by decide) (by decide)) (g := (mkF m 1 #[.val (.ref a1), .val (.int (0 : Int32)), .val (.int (1 : Int32)), .unset, .unset] [(.int (1 : Int32))])) rfl (by rw [hml]; rfl) (argsL := [(.int (1 : Int32))]) (rest := []) (lenOf own_pd_7 rfl) rfl (by show 2 * 0 + _ ≤ _; exact Nat.le_of_eq rfl) (hb hby d14_1) (fun _ _ => ⟨rfl, e0, (by decide : 0 + 1 ≤ _), (by decide : 0 + 2 ≤ _)⟩)
  dsimp only [Pt.U, Pt.locs, Pt.cells, Pt.slots] at X1 l1 y1 z1 st1 hQ1
  subst l1
  subst y1 z1
  obtain ⟨bb_1, k0_1, Nq1, Kq1, p1_0, p1_1, hv1⟩ := hQ1
  have N1 := Fr.app N0 Nq1
  have g_bb_1 : n0 ≤ bb_1 := Nat.le_trans Z0 p1_0
  have sz_bb_1 : h0.size ≤ bb_1 := Nat.le_trans (Keep.refl h0 []).1 p1_0
  have K2 : Keep h0 T1.heap [] := (Keep.refl h0 []).trans Kq1 all0
  subst hv1
  have f3 : Arv Z T1.heap a1 kc .char (1 : Int32) [(.int c0)] (.int (0 : Int32)) := (hVc.keep Kq1 nin0)
  obtain ⟨cl4, Ar4, q4, S4, M4, H4, G4⟩ := id f3
  have hin4 : ¬ ((0 : Int32) < 0 ∨ cl4.slots.size ≤ ((0 : Int32)).toNatClampNeg) := inb_of S4 ⟨by decide, by decide⟩
  have hat4 : cl4.slots[((0 : Int32)).toNatClampNeg]? = some (.int c0) := H4.at hin4 rfl
  have f6 : Old Z n0 T1.heap := (hO.keep Kq1 all0)
  have f7 : n0 ≤ T1.heap.size := (Nat.le_trans Z0 Kq1.1)
  obtain ⟨_, _, ⟨T5, L5, k5, n5⟩, -, X5, ⟨Lc5, hQ5, l5, y5, z5⟩, st5⟩ := Jvm.LawKit.callS X1 hx (y := (⟨"java/lang/StringUTF16", "putChar", "([BII)V"⟩ : MethodName)) hown (mvT hZ (own_k hw 74 rfl)) (mvT hZ (own_k hw 75 rfl)) (mvT hZ (own_k hw 22 rfl)) (mvT hZ (own_k hw 76 rfl)) (by decide) (backOf (W := 0) (rmPu20 l Z a0 hw [] bb_1 k0_1 (0 : Int32) (0 : Int32) c0 T1.heap n0 f7 hSa hSh hSl f6 p1_1 g_bb_1) hZ (own_k hw 76 rfl) (own_k hw 22 rfl) (by decide) (by decide)) (g := (mkF m 20 #[.val (.ref a1), .val (.int (0 : Int32)), .val (.int (1 : Int32)), .val (.ref bb_1), .val (.int (0 : Int32))] [(.int c0), (.int (0 : Int32)), (.ref bb_1)])) rfl (by rw [hml]; rfl) (argsL := [(.ref bb_1), (.int (0 : Int32)), (.int c0)]) (rest := []) (lenOf own_pd_8 rfl) rfl (by show 2 * 0 + _ ≤ _; exact Nat.le_of_eq rfl) (hb hby d14_20) (fun _ _ => ⟨rfl, rfl, (by decide : 1 + 0 ≤ _), (by decide : 2 + 0 ≤ _)⟩)
  dsimp only [Pt.U, Pt.locs, Pt.cells, Pt.slots] at X5 l5 y5 z5 st5 hQ5
  subst l5
  subst y5 z5
  obtain ⟨Nq5, Kq5, p5_0, hv5⟩ := hQ5
  have N5 := Fr.app N1 Nq5
  have K8 : Keep h0 T5.heap [] := K2.trans Kq5 (allS (Or.inr sz_bb_1) all0)
  subst hv5
  obtain ⟨fs, hr, hrun, hended, hW, hsame⟩ := X5.leave (v := (some (.ref bb_1))) (fun h => by rw [Bd.returns] at h; cases h)
  refine ⟨_, _, pre0 _ ?_, hrun, hended, _, _, rfl, ?_, ⟨_, rfl⟩, hW, hsame.mono (by decide) (by decide)⟩
  · show Steps p.tables e below (s₁.setTop (mkF m 0 #[.val (.ref a1), .val (.int (0 : Int32)), .val (.int (1 : Int32)), .unset, .unset] [])) _
    refine XS.iloadN X0.here hx rfl (hb hby d14_0) rfl ?_
    show Steps p.tables e below (s₁.setTop (mkF m 1 #[.val (.ref a1), .val (.int (0 : Int32)), .val (.int (1 : Int32)), .unset, .unset] [(.int (1 : Int32))])) _
    refine st1 _ ?_
    show Steps p.tables e below (T1.setTop (mkF m 4 #[.val (.ref a1), .val (.int (0 : Int32)), .val (.int (1 : Int32)), .unset, .unset] [(.ref bb_1)])) _
    refine XS.astoreN X1.here hx rfl (hb hby d14_4) rfl rfl (l' := #[.val (.ref a1), .val (.int (0 : Int32)), .val (.int (1 : Int32)), .val (.ref bb_1), .unset]) rfl ?_
    show Steps p.tables e below (T1.setTop (mkF m 5 #[.val (.ref a1), .val (.int (0 : Int32)), .val (.int (1 : Int32)), .val (.ref bb_1), .unset] [])) _
    refine XS.iconst X1.here hx rfl (hb hby d14_5) ?_
    show Steps p.tables e below (T1.setTop (mkF m 6 #[.val (.ref a1), .val (.int (0 : Int32)), .val (.int (1 : Int32)), .val (.ref bb_1), .unset] [(.int (0 : Int32))])) _
    refine XS.istore X1.here hx rfl (hb hby d14_6) rfl (l' := #[.val (.ref a1), .val (.int (0 : Int32)), .val (.int (1 : Int32)), .val (.ref bb_1), .val (.int (0 : Int32))]) rfl ?_
    show Steps p.tables e below (T1.setTop (mkF m 8 #[.val (.ref a1), .val (.int (0 : Int32)), .val (.int (1 : Int32)), .val (.ref bb_1), .val (.int (0 : Int32))] [])) _
    refine XS.iload X1.here hx rfl (hb hby d14_8) rfl ?_
    show Steps p.tables e below (T1.setTop (mkF m 10 #[.val (.ref a1), .val (.int (0 : Int32)), .val (.int (1 : Int32)), .val (.ref bb_1), .val (.int (0 : Int32))] [(.int (0 : Int32))])) _
    refine XS.iloadN X1.here hx rfl (hb hby d14_10) rfl ?_
    show Steps p.tables e below (T1.setTop (mkF m 11 #[.val (.ref a1), .val (.int (0 : Int32)), .val (.int (1 : Int32)), .val (.ref bb_1), .val (.int (0 : Int32))] [(.int (1 : Int32)), (.int (0 : Int32))])) _
    refine XS.icmpNo X1.here hx rfl (hb hby d14_11) rfl (by decide) ?_
    show Steps p.tables e below (T1.setTop (mkF m 14 #[.val (.ref a1), .val (.int (0 : Int32)), .val (.int (1 : Int32)), .val (.ref bb_1), .val (.int (0 : Int32))] [])) _
    refine XS.aloadN X1.here hx rfl (hb hby d14_14) rfl rfl ?_
    show Steps p.tables e below (T1.setTop (mkF m 15 #[.val (.ref a1), .val (.int (0 : Int32)), .val (.int (1 : Int32)), .val (.ref bb_1), .val (.int (0 : Int32))] [(.ref bb_1)])) _
    refine XS.iload X1.here hx rfl (hb hby d14_15) rfl ?_
    show Steps p.tables e below (T1.setTop (mkF m 17 #[.val (.ref a1), .val (.int (0 : Int32)), .val (.int (1 : Int32)), .val (.ref bb_1), .val (.int (0 : Int32))] [(.int (0 : Int32)), (.ref bb_1)])) _
    refine XS.aloadN X1.here hx rfl (hb hby d14_17) rfl rfl ?_
    show Steps p.tables e below (T1.setTop (mkF m 18 #[.val (.ref a1), .val (.int (0 : Int32)), .val (.int (1 : Int32)), .val (.ref bb_1), .val (.int (0 : Int32))] [(.ref a1), (.int (0 : Int32)), (.ref bb_1)])) _
    refine XS.iloadN X1.here hx rfl (hb hby d14_18) rfl ?_
    show Steps p.tables e below (T1.setTop (mkF m 19 #[.val (.ref a1), .val (.int (0 : Int32)), .val (.int (1 : Int32)), .val (.ref bb_1), .val (.int (0 : Int32))] [(.int (0 : Int32)), (.ref a1), (.int (0 : Int32)), (.ref bb_1)])) _
    refine X1.caload hx (j := (0 : Int32)) (v := (.int c0)) Ar4.1 (State.isArrayOf_alike hZ.alike Ar4.2.1) Ar4.2.2 hin4 hat4 (g := (mkF m 19 #[.val (.ref a1), .val (.int (0 : Int32)), .val (.int (1 : Int32)), .val (.ref bb_1), .val (.int (0 : Int32))] [(.int (0 : Int32)), (.ref a1), (.int (0 : Int32)), (.ref bb_1)])) rfl rfl (hb hby d14_19) _ ?_
    show Steps p.tables e below (T1.setTop (mkF m 20 #[.val (.ref a1), .val (.int (0 : Int32)), .val (.int (1 : Int32)), .val (.ref bb_1), .val (.int (0 : Int32))] [(.int c0), (.int (0 : Int32)), (.ref bb_1)])) _
    refine st5 _ ?_
    show Steps p.tables e below (T5.setTop (mkF m 23 #[.val (.ref a1), .val (.int (0 : Int32)), .val (.int (1 : Int32)), .val (.ref bb_1), .val (.int (0 : Int32))] [])) _
    refine XS.iinc X5.here hx rfl (hb hby d14_23) rfl (l' := #[.val (.ref a1), .val (.int (1 : Int32)), .val (.int (1 : Int32)), .val (.ref bb_1), .val (.int (0 : Int32))]) rfl ?_
    show Steps p.tables e below (T5.setTop (mkF m 26 #[.val (.ref a1), .val (.int (1 : Int32)), .val (.int (1 : Int32)), .val (.ref bb_1), .val (.int (0 : Int32))] [])) _
    refine XS.iinc X5.here hx rfl (hb hby d14_26) rfl (l' := #[.val (.ref a1), .val (.int (1 : Int32)), .val (.int (1 : Int32)), .val (.ref bb_1), .val (.int (1 : Int32))]) rfl ?_
    show Steps p.tables e below (T5.setTop (mkF m 29 #[.val (.ref a1), .val (.int (1 : Int32)), .val (.int (1 : Int32)), .val (.ref bb_1), .val (.int (1 : Int32))] [])) _
    refine XS.goto X5.here hx rfl (pc0 := 29) (pc' := 8) rfl (hb hby d14_29) (by decide) (by decide) ?_
    show Steps p.tables e below (T5.setTop (mkF m 8 #[.val (.ref a1), .val (.int (1 : Int32)), .val (.int (1 : Int32)), .val (.ref bb_1), .val (.int (1 : Int32))] [])) _
    refine XS.iload X5.here hx rfl (hb hby d14_8) rfl ?_
    show Steps p.tables e below (T5.setTop (mkF m 10 #[.val (.ref a1), .val (.int (1 : Int32)), .val (.int (1 : Int32)), .val (.ref bb_1), .val (.int (1 : Int32))] [(.int (1 : Int32))])) _
    refine XS.iloadN X5.here hx rfl (hb hby d14_10) rfl ?_
    show Steps p.tables e below (T5.setTop (mkF m 11 #[.val (.ref a1), .val (.int (1 : Int32)), .val (.int (1 : Int32)), .val (.ref bb_1), .val (.int (1 : Int32))] [(.int (1 : Int32)), (.int (1 : Int32))])) _
    refine XS.icmpYes X5.here hx rfl (pc0 := 11) (pc' := 32) rfl (hb hby d14_11) rfl (by decide) (by decide) (by decide) ?_
    show Steps p.tables e below (T5.setTop (mkF m 32 #[.val (.ref a1), .val (.int (1 : Int32)), .val (.int (1 : Int32)), .val (.ref bb_1), .val (.int (1 : Int32))] [])) _
    refine XS.aloadN X5.here hx rfl (hb hby d14_32) rfl rfl ?_
    show Steps p.tables e below (T5.setTop (mkF m 33 #[.val (.ref a1), .val (.int (1 : Int32)), .val (.int (1 : Int32)), .val (.ref bb_1), .val (.int (1 : Int32))] [(.ref bb_1)])) _
    exact retOut X5 hx Bd.returns rfl (Or.inr (Or.inr (Or.inr (Or.inr ⟨rfl, rfl, rfl⟩)))) (hb hby d14_33) hr
  · show Qtb1 Z a1 kc c0 h0 n0 _ T5.heap _
    exact ⟨bb_1, k0_1, N5, K8, sz_bb_1, p5_0, rfl⟩
theorem ef_tb2 (m : MethodId) (a1 : Addr) : entryFrame m #[(.ref a1), (.int (0 : Int32)), (.int (2 : Int32))] 5 = mkF m 0 #[.val (.ref a1), .val (.int (0 : Int32)), .val (.int (2 : Int32)), .unset, .unset] [] := by first | (simp [entryFrame, mkF, argsToLocals, Value.category]; done) | rfl
def Qtb2 (Z : State) (a1 : Addr) (kc : ClassId) (c0 : Int32) (c1 : Int32) (h0 : Heap) (n0 : Nat) (v : Option Value) (h : Heap) (L : List Loc) : Prop := ∃ (bb : Addr) (k0 : ClassId), Fr n0 L ∧ Keep h0 h [] ∧ h0.size ≤ bb ∧ Arv Z h bb k0 .byte (4 : Int32) [(.int (((c0 >>> ((0 : Int32) &&& 31)).toInt8.toInt32).toInt8.toInt32)), (.int (((c0 >>> ((8 : Int32) &&& 31)).toInt8.toInt32).toInt8.toInt32)), (.int (((c1 >>> ((0 : Int32) &&& 31)).toInt8.toInt32).toInt8.toInt32)), (.int (((c1 >>> ((8 : Int32) &&& 31)).toInt8.toInt32).toInt8.toInt32))] (.int (0 : Int32)) ∧ (v = some (.ref bb))
set_option maxRecDepth 65536 in
set_option maxHeartbeats 40000000 in
theorem rmTb2 (l : Launch) (Z : State) (a0 : Array Value) (hw : ∀ d ∈ tables_1, d.before a0 Z = true) (ws : List Jvm.Cond) (a1 : Addr) (kc : ClassId) (c0 : Int32) (c1 : Int32) (h0 : Heap) (n0 : Nat) (Z0 : n0 ≤ h0.size) (hSa : Sta Z Z.heap "java/lang/StringUTF16" "$assertionsDisabled" "Z" (.int (1 : Int32))) (hSh : Sta Z Z.heap "java/lang/StringUTF16" "HI_BYTE_SHIFT" "I" (.int (0 : Int32))) (hSl : Sta Z Z.heap "java/lang/StringUTF16" "LO_BYTE_SHIFT" "I" (.int (8 : Int32))) (hO : Old Z n0 h0) (hVc : Arv Z h0 a1 kc .char (2 : Int32) [(.int c0), (.int c1)] (.int (0 : Int32))) :
    MetFree l (⟨"java/lang/StringUTF16", "toBytes", "([CII)[B"⟩ : MethodName) (head1 (Jvm.Cond.code (⟨"java/lang/StringUTF16", "toBytes", "([CII)[B"⟩ : MethodName) jdk_52_method_14_code 5 (some (.array .byte)) :: ws) ({ frames := 2, cells := 1, slots := 4, locals := 24 } : Room)) (fun a U => a = #[(.ref a1), (.int (0 : Int32)), (.int (2 : Int32))] ∧ Z.Warmed39 U.vm ∧ U.heap = h0) (fun _ _ _ _ _ => True) (fun _ U o U' => ∃ v L, o = .returned v ∧ Qtb2 Z a1 kc c0 c1 h0 n0 v U'.heap L ∧ FrameEnd U o U' L ({ frames := 2, cells := 1, slots := 4, locals := 24 } : Room).cells ({ frames := 2, cells := 1, slots := 4, locals := 24 } : Room).slots) := by
  refine MetFree.of_bodySF (plainFor_of_name own_pn_6) hisR ?_
  intro p e s m args below meth c s₁ Bd hml0 hP hK
  obtain ⟨rfl, hZ, hh⟩ := hP
  have hx := Bd.exec
  have hby := Bd.bytes
  have hml : c.maxLocals = 5 := hml0
  have hown : s.vm.findClass "java/lang/StringUTF16" = some m.cls := findClass_of_methodNamed Bd.named
  have hnm := (name_of_methodNamed Bd.named Bd.method).1
  have X0 : Stand p l e ({ frames := 2, cells := 1, slots := 4, locals := 24 } : Room) s m #[(.ref a1), (.int (0 : Int32)), (.int (2 : Int32))] below meth c s₁ [] 0 0 := Stand.of_body Bd
  have e0 : s₁.heap = h0 := by rw [← hh, Bd.state]; rfl
  have N0 := Fr.nil n0
  have pre0 : ∀ t, Steps p.tables e below (s₁.setTop (mkF m 0 #[.val (.ref a1), .val (.int (0 : Int32)), .val (.int (2 : Int32)), .unset, .unset] [])) t → Steps p.tables e below (s₁.setTop (entryFrame m #[(.ref a1), (.int (0 : Int32)), (.int (2 : Int32))] 5)) t := fun t k => castTop (ef_tb2 m a1) k
  obtain ⟨_, _, ⟨T1, L1, k1, n1⟩, -, X1, ⟨Lc1, hQ1, l1, y1, z1⟩, st1⟩ := Jvm.LawKit.callS X0 hx (y := (⟨"java/lang/StringUTF16", "newBytesFor", "(I)[B"⟩ : MethodName)) hown (mvT hZ (own_k hw 67 rfl)) (mvT hZ (own_k hw 68 rfl)) (mvT hZ (own_k hw 22 rfl)) (mvT hZ (own_k hw 69 rfl)) (by decide) (backOf (W := 0) (rmNf2 l Z a0 hw []  h0 n0 Z0 ) hZ (own_k hw 69 rfl) (own_k hw 22 rfl) (by decide) (by decide)) (g := (mkF m 1 #[.val (.ref a1), .val (.int (0 : Int32)), .val (.int (2 : Int32)), .unset, .unset] [(.int (2 : Int32))])) rfl (by rw [hml]; rfl) (argsL := [(.int (2 : Int32))]) (rest := []) (lenOf own_pd_7 rfl) rfl (by show 2 * 0 + _ ≤ _; exact Nat.le_of_eq rfl) (hb hby d14_1) (fun _ _ => ⟨rfl, e0, (by decide : 0 + 1 ≤ _), (by decide : 0 + 4 ≤ _)⟩)
  dsimp only [Pt.U, Pt.locs, Pt.cells, Pt.slots] at X1 l1 y1 z1 st1 hQ1
  subst l1
  subst y1 z1
  obtain ⟨bb_1, k0_1, Nq1, Kq1, p1_0, p1_1, hv1⟩ := hQ1
  have N1 := Fr.app N0 Nq1
  have g_bb_1 : n0 ≤ bb_1 := Nat.le_trans Z0 p1_0
  have sz_bb_1 : h0.size ≤ bb_1 := Nat.le_trans (Keep.refl h0 []).1 p1_0
  have K2 : Keep h0 T1.heap [] := (Keep.refl h0 []).trans Kq1 all0
  subst hv1
  have f3 : Arv Z T1.heap a1 kc .char (2 : Int32) [(.int c0), (.int c1)] (.int (0 : Int32)) := (hVc.keep Kq1 nin0)
  obtain ⟨cl4, Ar4, q4, S4, M4, H4, G4⟩ := id f3
  have hin4 : ¬ ((0 : Int32) < 0 ∨ cl4.slots.size ≤ ((0 : Int32)).toNatClampNeg) := inb_of S4 ⟨by decide, by decide⟩
  have hat4 : cl4.slots[((0 : Int32)).toNatClampNeg]? = some (.int c0) := H4.at hin4 rfl
  have f6 : Old Z n0 T1.heap := (hO.keep Kq1 all0)
  have f7 : n0 ≤ T1.heap.size := (Nat.le_trans Z0 Kq1.1)
  obtain ⟨_, _, ⟨T5, L5, k5, n5⟩, -, X5, ⟨Lc5, hQ5, l5, y5, z5⟩, st5⟩ := Jvm.LawKit.callS X1 hx (y := (⟨"java/lang/StringUTF16", "putChar", "([BII)V"⟩ : MethodName)) hown (mvT hZ (own_k hw 74 rfl)) (mvT hZ (own_k hw 75 rfl)) (mvT hZ (own_k hw 22 rfl)) (mvT hZ (own_k hw 76 rfl)) (by decide) (backOf (W := 0) (rmPu40 l Z a0 hw [] bb_1 k0_1 (0 : Int32) (0 : Int32) (0 : Int32) (0 : Int32) c0 T1.heap n0 f7 hSa hSh hSl f6 p1_1 g_bb_1) hZ (own_k hw 76 rfl) (own_k hw 22 rfl) (by decide) (by decide)) (g := (mkF m 20 #[.val (.ref a1), .val (.int (0 : Int32)), .val (.int (2 : Int32)), .val (.ref bb_1), .val (.int (0 : Int32))] [(.int c0), (.int (0 : Int32)), (.ref bb_1)])) rfl (by rw [hml]; rfl) (argsL := [(.ref bb_1), (.int (0 : Int32)), (.int c0)]) (rest := []) (lenOf own_pd_8 rfl) rfl (by show 2 * 0 + _ ≤ _; exact Nat.le_of_eq rfl) (hb hby d14_20) (fun _ _ => ⟨rfl, rfl, (by decide : 1 + 0 ≤ _), (by decide : 4 + 0 ≤ _)⟩)
  dsimp only [Pt.U, Pt.locs, Pt.cells, Pt.slots] at X5 l5 y5 z5 st5 hQ5
  subst l5
  subst y5 z5
  obtain ⟨Nq5, Kq5, p5_0, hv5⟩ := hQ5
  have N5 := Fr.app N1 Nq5
  have K8 : Keep h0 T5.heap [] := K2.trans Kq5 (allS (Or.inr sz_bb_1) all0)
  subst hv5
  have f9 : Arv Z T5.heap a1 kc .char (2 : Int32) [(.int c0), (.int c1)] (.int (0 : Int32)) := (f3.keep Kq5 (ninS (Nat.ne_of_lt (Nat.lt_of_lt_of_le hVc.lt p1_0)) nin0))
  obtain ⟨cl10, Ar10, q10, S10, M10, H10, G10⟩ := id f9
  have hin10 : ¬ ((1 : Int32) < 0 ∨ cl10.slots.size ≤ ((1 : Int32)).toNatClampNeg) := inb_of S10 ⟨by decide, by decide⟩
  have hat10 : cl10.slots[((1 : Int32)).toNatClampNeg]? = some (.int c1) := H10.at hin10 rfl
  have f12 : Old Z n0 T5.heap := (f6.keep Kq5 (allS g_bb_1 all0))
  have f13 : n0 ≤ T5.heap.size := (Nat.le_trans f7 Kq5.1)
  obtain ⟨_, _, ⟨T11, L11, k11, n11⟩, -, X11, ⟨Lc11, hQ11, l11, y11, z11⟩, st11⟩ := Jvm.LawKit.callS X5 hx (y := (⟨"java/lang/StringUTF16", "putChar", "([BII)V"⟩ : MethodName)) hown (mvT hZ (own_k hw 74 rfl)) (mvT hZ (own_k hw 75 rfl)) (mvT hZ (own_k hw 22 rfl)) (mvT hZ (own_k hw 76 rfl)) (by decide) (backOf (W := 0) (rmPu41 l Z a0 hw [] bb_1 k0_1 (((c0 >>> ((0 : Int32) &&& 31)).toInt8.toInt32).toInt8.toInt32) (((c0 >>> ((8 : Int32) &&& 31)).toInt8.toInt32).toInt8.toInt32) (0 : Int32) (0 : Int32) c1 T5.heap n0 f13 hSa hSh hSl f12 p5_0 g_bb_1) hZ (own_k hw 76 rfl) (own_k hw 22 rfl) (by decide) (by decide)) (g := (mkF m 20 #[.val (.ref a1), .val (.int (1 : Int32)), .val (.int (2 : Int32)), .val (.ref bb_1), .val (.int (1 : Int32))] [(.int c1), (.int (1 : Int32)), (.ref bb_1)])) rfl (by rw [hml]; rfl) (argsL := [(.ref bb_1), (.int (1 : Int32)), (.int c1)]) (rest := []) (lenOf own_pd_8 rfl) rfl (by show 2 * 0 + _ ≤ _; exact Nat.le_of_eq rfl) (hb hby d14_20) (fun _ _ => ⟨rfl, rfl, (by decide : 1 + 0 ≤ _), (by decide : 4 + 0 ≤ _)⟩)
  dsimp only [Pt.U, Pt.locs, Pt.cells, Pt.slots] at X11 l11 y11 z11 st11 hQ11
  subst l11
  subst y11 z11
  obtain ⟨Nq11, Kq11, p11_0, hv11⟩ := hQ11
  have N11 := Fr.app N5 Nq11
  have K14 : Keep h0 T11.heap [] := K8.trans Kq11 (allS (Or.inr sz_bb_1) all0)
  subst hv11
  obtain ⟨fs, hr, hrun, hended, hW, hsame⟩ := X11.leave (v := (some (.ref bb_1))) (fun h => by rw [Bd.returns] at h; cases h)
  refine ⟨_, _, pre0 _ ?_, hrun, hended, _, _, rfl, ?_, ⟨_, rfl⟩, hW, hsame.mono (by decide) (by decide)⟩
  · show Steps p.tables e below (s₁.setTop (mkF m 0 #[.val (.ref a1), .val (.int (0 : Int32)), .val (.int (2 : Int32)), .unset, .unset] [])) _
    refine XS.iloadN X0.here hx rfl (hb hby d14_0) rfl ?_
    show Steps p.tables e below (s₁.setTop (mkF m 1 #[.val (.ref a1), .val (.int (0 : Int32)), .val (.int (2 : Int32)), .unset, .unset] [(.int (2 : Int32))])) _
    refine st1 _ ?_
    show Steps p.tables e below (T1.setTop (mkF m 4 #[.val (.ref a1), .val (.int (0 : Int32)), .val (.int (2 : Int32)), .unset, .unset] [(.ref bb_1)])) _
    refine XS.astoreN X1.here hx rfl (hb hby d14_4) rfl rfl (l' := #[.val (.ref a1), .val (.int (0 : Int32)), .val (.int (2 : Int32)), .val (.ref bb_1), .unset]) rfl ?_
    show Steps p.tables e below (T1.setTop (mkF m 5 #[.val (.ref a1), .val (.int (0 : Int32)), .val (.int (2 : Int32)), .val (.ref bb_1), .unset] [])) _
    refine XS.iconst X1.here hx rfl (hb hby d14_5) ?_
    show Steps p.tables e below (T1.setTop (mkF m 6 #[.val (.ref a1), .val (.int (0 : Int32)), .val (.int (2 : Int32)), .val (.ref bb_1), .unset] [(.int (0 : Int32))])) _
    refine XS.istore X1.here hx rfl (hb hby d14_6) rfl (l' := #[.val (.ref a1), .val (.int (0 : Int32)), .val (.int (2 : Int32)), .val (.ref bb_1), .val (.int (0 : Int32))]) rfl ?_
    show Steps p.tables e below (T1.setTop (mkF m 8 #[.val (.ref a1), .val (.int (0 : Int32)), .val (.int (2 : Int32)), .val (.ref bb_1), .val (.int (0 : Int32))] [])) _
    refine XS.iload X1.here hx rfl (hb hby d14_8) rfl ?_
    show Steps p.tables e below (T1.setTop (mkF m 10 #[.val (.ref a1), .val (.int (0 : Int32)), .val (.int (2 : Int32)), .val (.ref bb_1), .val (.int (0 : Int32))] [(.int (0 : Int32))])) _
    refine XS.iloadN X1.here hx rfl (hb hby d14_10) rfl ?_
    show Steps p.tables e below (T1.setTop (mkF m 11 #[.val (.ref a1), .val (.int (0 : Int32)), .val (.int (2 : Int32)), .val (.ref bb_1), .val (.int (0 : Int32))] [(.int (2 : Int32)), (.int (0 : Int32))])) _
    refine XS.icmpNo X1.here hx rfl (hb hby d14_11) rfl (by decide) ?_
    show Steps p.tables e below (T1.setTop (mkF m 14 #[.val (.ref a1), .val (.int (0 : Int32)), .val (.int (2 : Int32)), .val (.ref bb_1), .val (.int (0 : Int32))] [])) _
    refine XS.aloadN X1.here hx rfl (hb hby d14_14) rfl rfl ?_
    show Steps p.tables e below (T1.setTop (mkF m 15 #[.val (.ref a1), .val (.int (0 : Int32)), .val (.int (2 : Int32)), .val (.ref bb_1), .val (.int (0 : Int32))] [(.ref bb_1)])) _
    refine XS.iload X1.here hx rfl (hb hby d14_15) rfl ?_
    show Steps p.tables e below (T1.setTop (mkF m 17 #[.val (.ref a1), .val (.int (0 : Int32)), .val (.int (2 : Int32)), .val (.ref bb_1), .val (.int (0 : Int32))] [(.int (0 : Int32)), (.ref bb_1)])) _
    refine XS.aloadN X1.here hx rfl (hb hby d14_17) rfl rfl ?_
    show Steps p.tables e below (T1.setTop (mkF m 18 #[.val (.ref a1), .val (.int (0 : Int32)), .val (.int (2 : Int32)), .val (.ref bb_1), .val (.int (0 : Int32))] [(.ref a1), (.int (0 : Int32)), (.ref bb_1)])) _
    refine XS.iloadN X1.here hx rfl (hb hby d14_18) rfl ?_
    show Steps p.tables e below (T1.setTop (mkF m 19 #[.val (.ref a1), .val (.int (0 : Int32)), .val (.int (2 : Int32)), .val (.ref bb_1), .val (.int (0 : Int32))] [(.int (0 : Int32)), (.ref a1), (.int (0 : Int32)), (.ref bb_1)])) _
    refine X1.caload hx (j := (0 : Int32)) (v := (.int c0)) Ar4.1 (State.isArrayOf_alike hZ.alike Ar4.2.1) Ar4.2.2 hin4 hat4 (g := (mkF m 19 #[.val (.ref a1), .val (.int (0 : Int32)), .val (.int (2 : Int32)), .val (.ref bb_1), .val (.int (0 : Int32))] [(.int (0 : Int32)), (.ref a1), (.int (0 : Int32)), (.ref bb_1)])) rfl rfl (hb hby d14_19) _ ?_
    show Steps p.tables e below (T1.setTop (mkF m 20 #[.val (.ref a1), .val (.int (0 : Int32)), .val (.int (2 : Int32)), .val (.ref bb_1), .val (.int (0 : Int32))] [(.int c0), (.int (0 : Int32)), (.ref bb_1)])) _
    refine st5 _ ?_
    show Steps p.tables e below (T5.setTop (mkF m 23 #[.val (.ref a1), .val (.int (0 : Int32)), .val (.int (2 : Int32)), .val (.ref bb_1), .val (.int (0 : Int32))] [])) _
    refine XS.iinc X5.here hx rfl (hb hby d14_23) rfl (l' := #[.val (.ref a1), .val (.int (1 : Int32)), .val (.int (2 : Int32)), .val (.ref bb_1), .val (.int (0 : Int32))]) rfl ?_
    show Steps p.tables e below (T5.setTop (mkF m 26 #[.val (.ref a1), .val (.int (1 : Int32)), .val (.int (2 : Int32)), .val (.ref bb_1), .val (.int (0 : Int32))] [])) _
    refine XS.iinc X5.here hx rfl (hb hby d14_26) rfl (l' := #[.val (.ref a1), .val (.int (1 : Int32)), .val (.int (2 : Int32)), .val (.ref bb_1), .val (.int (1 : Int32))]) rfl ?_
    show Steps p.tables e below (T5.setTop (mkF m 29 #[.val (.ref a1), .val (.int (1 : Int32)), .val (.int (2 : Int32)), .val (.ref bb_1), .val (.int (1 : Int32))] [])) _
    refine XS.goto X5.here hx rfl (pc0 := 29) (pc' := 8) rfl (hb hby d14_29) (by decide) (by decide) ?_
    show Steps p.tables e below (T5.setTop (mkF m 8 #[.val (.ref a1), .val (.int (1 : Int32)), .val (.int (2 : Int32)), .val (.ref bb_1), .val (.int (1 : Int32))] [])) _
    refine XS.iload X5.here hx rfl (hb hby d14_8) rfl ?_
    show Steps p.tables e below (T5.setTop (mkF m 10 #[.val (.ref a1), .val (.int (1 : Int32)), .val (.int (2 : Int32)), .val (.ref bb_1), .val (.int (1 : Int32))] [(.int (1 : Int32))])) _
    refine XS.iloadN X5.here hx rfl (hb hby d14_10) rfl ?_
    show Steps p.tables e below (T5.setTop (mkF m 11 #[.val (.ref a1), .val (.int (1 : Int32)), .val (.int (2 : Int32)), .val (.ref bb_1), .val (.int (1 : Int32))] [(.int (2 : Int32)), (.int (1 : Int32))])) _
    refine XS.icmpNo X5.here hx rfl (hb hby d14_11) rfl (by decide) ?_
    show Steps p.tables e below (T5.setTop (mkF m 14 #[.val (.ref a1), .val (.int (1 : Int32)), .val (.int (2 : Int32)), .val (.ref bb_1), .val (.int (1 : Int32))] [])) _
    refine XS.aloadN X5.here hx rfl (hb hby d14_14) rfl rfl ?_
    show Steps p.tables e below (T5.setTop (mkF m 15 #[.val (.ref a1), .val (.int (1 : Int32)), .val (.int (2 : Int32)), .val (.ref bb_1), .val (.int (1 : Int32))] [(.ref bb_1)])) _
    refine XS.iload X5.here hx rfl (hb hby d14_15) rfl ?_
    show Steps p.tables e below (T5.setTop (mkF m 17 #[.val (.ref a1), .val (.int (1 : Int32)), .val (.int (2 : Int32)), .val (.ref bb_1), .val (.int (1 : Int32))] [(.int (1 : Int32)), (.ref bb_1)])) _
    refine XS.aloadN X5.here hx rfl (hb hby d14_17) rfl rfl ?_
    show Steps p.tables e below (T5.setTop (mkF m 18 #[.val (.ref a1), .val (.int (1 : Int32)), .val (.int (2 : Int32)), .val (.ref bb_1), .val (.int (1 : Int32))] [(.ref a1), (.int (1 : Int32)), (.ref bb_1)])) _
    refine XS.iloadN X5.here hx rfl (hb hby d14_18) rfl ?_
    show Steps p.tables e below (T5.setTop (mkF m 19 #[.val (.ref a1), .val (.int (1 : Int32)), .val (.int (2 : Int32)), .val (.ref bb_1), .val (.int (1 : Int32))] [(.int (1 : Int32)), (.ref a1), (.int (1 : Int32)), (.ref bb_1)])) _
    refine X5.caload hx (j := (1 : Int32)) (v := (.int c1)) Ar10.1 (State.isArrayOf_alike hZ.alike Ar10.2.1) Ar10.2.2 hin10 hat10 (g := (mkF m 19 #[.val (.ref a1), .val (.int (1 : Int32)), .val (.int (2 : Int32)), .val (.ref bb_1), .val (.int (1 : Int32))] [(.int (1 : Int32)), (.ref a1), (.int (1 : Int32)), (.ref bb_1)])) rfl rfl (hb hby d14_19) _ ?_
    show Steps p.tables e below (T5.setTop (mkF m 20 #[.val (.ref a1), .val (.int (1 : Int32)), .val (.int (2 : Int32)), .val (.ref bb_1), .val (.int (1 : Int32))] [(.int c1), (.int (1 : Int32)), (.ref bb_1)])) _
    refine st11 _ ?_
    show Steps p.tables e below (T11.setTop (mkF m 23 #[.val (.ref a1), .val (.int (1 : Int32)), .val (.int (2 : Int32)), .val (.ref bb_1), .val (.int (1 : Int32))] [])) _
    refine XS.iinc X11.here hx rfl (hb hby d14_23) rfl (l' := #[.val (.ref a1), .val (.int (2 : Int32)), .val (.int (2 : Int32)), .val (.ref bb_1), .val (.int (1 : Int32))]) rfl ?_
    show Steps p.tables e below (T11.setTop (mkF m 26 #[.val (.ref a1), .val (.int (2 : Int32)), .val (.int (2 : Int32)), .val (.ref bb_1), .val (.int (1 : Int32))] [])) _
    refine XS.iinc X11.here hx rfl (hb hby d14_26) rfl (l' := #[.val (.ref a1), .val (.int (2 : Int32)), .val (.int (2 : Int32)), .val (.ref bb_1), .val (.int (2 : Int32))]) rfl ?_
    show Steps p.tables e below (T11.setTop (mkF m 29 #[.val (.ref a1), .val (.int (2 : Int32)), .val (.int (2 : Int32)), .val (.ref bb_1), .val (.int (2 : Int32))] [])) _
    refine XS.goto X11.here hx rfl (pc0 := 29) (pc' := 8) rfl (hb hby d14_29) (by decide) (by decide) ?_
    show Steps p.tables e below (T11.setTop (mkF m 8 #[.val (.ref a1), .val (.int (2 : Int32)), .val (.int (2 : Int32)), .val (.ref bb_1), .val (.int (2 : Int32))] [])) _
    refine XS.iload X11.here hx rfl (hb hby d14_8) rfl ?_
    show Steps p.tables e below (T11.setTop (mkF m 10 #[.val (.ref a1), .val (.int (2 : Int32)), .val (.int (2 : Int32)), .val (.ref bb_1), .val (.int (2 : Int32))] [(.int (2 : Int32))])) _
    refine XS.iloadN X11.here hx rfl (hb hby d14_10) rfl ?_
    show Steps p.tables e below (T11.setTop (mkF m 11 #[.val (.ref a1), .val (.int (2 : Int32)), .val (.int (2 : Int32)), .val (.ref bb_1), .val (.int (2 : Int32))] [(.int (2 : Int32)), (.int (2 : Int32))])) _
    refine XS.icmpYes X11.here hx rfl (pc0 := 11) (pc' := 32) rfl (hb hby d14_11) rfl (by decide) (by decide) (by decide) ?_
    show Steps p.tables e below (T11.setTop (mkF m 32 #[.val (.ref a1), .val (.int (2 : Int32)), .val (.int (2 : Int32)), .val (.ref bb_1), .val (.int (2 : Int32))] [])) _
    refine XS.aloadN X11.here hx rfl (hb hby d14_32) rfl rfl ?_
    show Steps p.tables e below (T11.setTop (mkF m 33 #[.val (.ref a1), .val (.int (2 : Int32)), .val (.int (2 : Int32)), .val (.ref bb_1), .val (.int (2 : Int32))] [(.ref bb_1)])) _
    exact retOut X11 hx Bd.returns rfl (Or.inr (Or.inr (Or.inr (Or.inr ⟨rfl, rfl, rfl⟩)))) (hb hby d14_33) hr
  · show Qtb2 Z a1 kc c0 c1 h0 n0 _ T11.heap _
    exact ⟨bb_1, k0_1, N11, K14, sz_bb_1, p11_0, rfl⟩
theorem d6_0 : decode jdk_52_method_21_code 0 = .ok (.iconst 0, 1) := by decide +kernel
theorem d6_1 : decode jdk_52_method_21_code 1 = .ok (.istore 5, 2) := by decide +kernel
theorem d6_3 : decode jdk_52_method_21_code 3 = .ok (.iload 5, 2) := by decide +kernel
theorem d6_5 : decode jdk_52_method_21_code 5 = .ok (.iload 4, 2) := by decide +kernel
theorem d6_7 : decode jdk_52_method_21_code 7 = .ok (.if_icmp .ge 37, 3) := by decide +kernel
theorem d6_10 : decode jdk_52_method_21_code 10 = .ok (.aload_n 0, 1) := by decide +kernel
theorem d6_11 : decode jdk_52_method_21_code 11 = .ok (.iload_n 1, 1) := by decide +kernel
theorem d6_12 : decode jdk_52_method_21_code 12 = .ok (.caload, 1) := by decide +kernel
theorem d6_13 : decode jdk_52_method_21_code 13 = .ok (.istore 6, 2) := by decide +kernel
theorem d6_15 : decode jdk_52_method_21_code 15 = .ok (.iload 6, 2) := by decide +kernel
theorem d6_17 : decode jdk_52_method_21_code 17 = .ok (.sipush 255, 3) := by decide +kernel
theorem d6_20 : decode jdk_52_method_21_code 20 = .ok (.if_icmp .le 6, 3) := by decide +kernel
theorem d6_26 : decode jdk_52_method_21_code 26 = .ok (.aload_n 2, 1) := by decide +kernel
theorem d6_27 : decode jdk_52_method_21_code 27 = .ok (.iload_n 3, 1) := by decide +kernel
theorem d6_28 : decode jdk_52_method_21_code 28 = .ok (.iload 6, 2) := by decide +kernel
theorem d6_30 : decode jdk_52_method_21_code 30 = .ok (.i2b, 1) := by decide +kernel
theorem d6_31 : decode jdk_52_method_21_code 31 = .ok (.bastore, 1) := by decide +kernel
theorem d6_32 : decode jdk_52_method_21_code 32 = .ok (.iinc 1 1, 3) := by decide +kernel
theorem d6_35 : decode jdk_52_method_21_code 35 = .ok (.iinc 3 1, 3) := by decide +kernel
theorem d6_38 : decode jdk_52_method_21_code 38 = .ok (.iinc 5 1, 3) := by decide +kernel
theorem d6_41 : decode jdk_52_method_21_code 41 = .ok (.goto (-38), 3) := by decide +kernel
theorem d6_44 : decode jdk_52_method_21_code 44 = .ok (.iload 4, 2) := by decide +kernel
theorem d6_46 : decode jdk_52_method_21_code 46 = .ok (.ireturn, 1) := by decide +kernel
theorem ef_cp1l (m : MethodId) (a1 : Addr) (a2 : Addr) : entryFrame m #[(.ref a1), (.int (0 : Int32)), (.ref a2), (.int (0 : Int32)), (.int (1 : Int32))] 7 = mkF m 0 #[.val (.ref a1), .val (.int (0 : Int32)), .val (.ref a2), .val (.int (0 : Int32)), .val (.int (1 : Int32)), .unset, .unset] [] := by first | (simp [entryFrame, mkF, argsToLocals, Value.category]; done) | rfl
def Qcp1l (Z : State) (a1 : Addr) (kc : ClassId) (a2 : Addr) (kk : ClassId) (c0 : Int32) (h0 : Heap) (n0 : Nat) (v : Option Value) (h : Heap) (L : List Loc) : Prop := Fr n0 L ∧ Keep h0 h [a2] ∧ Arv Z h a2 kk .byte (1 : Int32) [(.int ((c0.toInt8.toInt32).toInt8.toInt32))] (.int (0 : Int32)) ∧ (v = some (.int (1 : Int32)))
set_option maxRecDepth 65536 in
set_option maxHeartbeats 40000000 in
theorem rmCp1l (l : Launch) (Z : State) (a0 : Array Value) (hw : ∀ d ∈ tables_1, d.before a0 Z = true) (ws : List Jvm.Cond) (a1 : Addr) (kc : ClassId) (a2 : Addr) (kk : ClassId) (c0 : Int32) (h0 : Heap) (n0 : Nat) (Z0 : n0 ≤ h0.size) (hVc : Arv Z h0 a1 kc .char (1 : Int32) [(.int c0)] (.int (0 : Int32))) (hV : Arv Z h0 a2 kk .byte (1 : Int32) [(.int (0 : Int32))] (.int (0 : Int32))) (hG2 : n0 ≤ a2) (hne : a1 ≠ a2) (hk0 : ¬ ((255 : Int32) < c0)) :
    MetFree l (⟨"java/lang/StringUTF16", "compress", "([CI[BII)I"⟩ : MethodName) (head1 (Jvm.Cond.code (⟨"java/lang/StringUTF16", "compress", "([CI[BII)I"⟩ : MethodName) jdk_52_method_21_code 7 (some .int) :: ws) ({ frames := 0, cells := 0, slots := 0, locals := 0 } : Room)) (fun a U => a = #[(.ref a1), (.int (0 : Int32)), (.ref a2), (.int (0 : Int32)), (.int (1 : Int32))] ∧ Z.Warmed39 U.vm ∧ U.heap = h0) (fun _ _ _ _ _ => True) (fun _ U o U' => ∃ v L, o = .returned v ∧ Qcp1l Z a1 kc a2 kk c0 h0 n0 v U'.heap L ∧ FrameEnd U o U' L ({ frames := 0, cells := 0, slots := 0, locals := 0 } : Room).cells ({ frames := 0, cells := 0, slots := 0, locals := 0 } : Room).slots) := by
  refine MetFree.of_bodySF (plainFor_of_name own_pn_6) hisR ?_
  intro p e s m args below meth c s₁ Bd hml0 hP hK
  obtain ⟨rfl, hZ, hh⟩ := hP
  have hx := Bd.exec
  have hby := Bd.bytes
  have hml : c.maxLocals = 7 := hml0
  have hown : s.vm.findClass "java/lang/StringUTF16" = some m.cls := findClass_of_methodNamed Bd.named
  have hnm := (name_of_methodNamed Bd.named Bd.method).1
  have X0 : Stand p l e ({ frames := 0, cells := 0, slots := 0, locals := 0 } : Room) s m #[(.ref a1), (.int (0 : Int32)), (.ref a2), (.int (0 : Int32)), (.int (1 : Int32))] below meth c s₁ [] 0 0 := Stand.of_body Bd
  have e0 : s₁.heap = h0 := by rw [← hh, Bd.state]; rfl
  have N0 := Fr.nil n0
  have pre0 : ∀ t, Steps p.tables e below (s₁.setTop (mkF m 0 #[.val (.ref a1), .val (.int (0 : Int32)), .val (.ref a2), .val (.int (0 : Int32)), .val (.int (1 : Int32)), .unset, .unset] [])) t → Steps p.tables e below (s₁.setTop (entryFrame m #[(.ref a1), (.int (0 : Int32)), (.ref a2), (.int (0 : Int32)), (.int (1 : Int32))] 7)) t := fun t k => castTop (ef_cp1l m a1 a2) k
  obtain ⟨cl1, Ar1, q1, S1, M1, H1, G1⟩ := id hVc
  have hin1 : ¬ ((0 : Int32) < 0 ∨ cl1.slots.size ≤ ((0 : Int32)).toNatClampNeg) := inb_of S1 ⟨by decide, by decide⟩
  have hat1 : cl1.slots[((0 : Int32)).toNatClampNeg]? = some (.int c0) := H1.at hin1 rfl
  obtain ⟨cl2, Ar2, q2, S2, M2, H2, G2⟩ := id hV
  have hin2 : ¬ ((0 : Int32) < 0 ∨ cl2.slots.size ≤ ((0 : Int32)).toNatClampNeg) := inb_of S2 ⟨by decide, by decide⟩
  obtain ⟨T2, h2, X2, e2, W2, st2⟩ := stB X0 hx hZ e0 Ar2 (j := (0 : Int32)) hin2 (g := (mkF m 31 #[.val (.ref a1), .val (.int (0 : Int32)), .val (.ref a2), .val (.int (0 : Int32)), .val (.int (1 : Int32)), .val (.int (0 : Int32)), .val (.int c0)] [(.int (c0.toInt8.toInt32)), (.int (0 : Int32)), (.ref a2)])) rfl rfl (hb hby d6_31)
  have N2 := Fr.snoc X2 N0 hG2
  have K3 : Keep h0 h2 [a2] := (Keep.refl h0 [a2]).wr W2 (Or.inl (List.mem_of_getElem? (i := 0) rfl))
  have V2 : Arv Z h2 a2 kk .byte (1 : Int32) [(.int ((c0.toInt8.toInt32).toInt8.toInt32))] (.int (0 : Int32)) := Arv.set Ar2 q2 S2 M2 H2 G2 (fits_nar_byte _) W2 0 rfl (Nat.le_of_ble_eq_true rfl)
  obtain ⟨fs, hr, hrun, hended, hW, hsame⟩ := X2.leave (v := (some (.int (1 : Int32)))) (fun h => by rw [Bd.returns] at h; cases h)
  refine ⟨_, _, pre0 _ ?_, hrun, hended, _, _, rfl, ?_, ⟨_, rfl⟩, hW, hsame.mono (by decide) (by decide)⟩
  · show Steps p.tables e below (s₁.setTop (mkF m 0 #[.val (.ref a1), .val (.int (0 : Int32)), .val (.ref a2), .val (.int (0 : Int32)), .val (.int (1 : Int32)), .unset, .unset] [])) _
    refine XS.iconst X0.here hx rfl (hb hby d6_0) ?_
    show Steps p.tables e below (s₁.setTop (mkF m 1 #[.val (.ref a1), .val (.int (0 : Int32)), .val (.ref a2), .val (.int (0 : Int32)), .val (.int (1 : Int32)), .unset, .unset] [(.int (0 : Int32))])) _
    refine XS.istore X0.here hx rfl (hb hby d6_1) rfl (l' := #[.val (.ref a1), .val (.int (0 : Int32)), .val (.ref a2), .val (.int (0 : Int32)), .val (.int (1 : Int32)), .val (.int (0 : Int32)), .unset]) rfl ?_
    show Steps p.tables e below (s₁.setTop (mkF m 3 #[.val (.ref a1), .val (.int (0 : Int32)), .val (.ref a2), .val (.int (0 : Int32)), .val (.int (1 : Int32)), .val (.int (0 : Int32)), .unset] [])) _
    refine XS.iload X0.here hx rfl (hb hby d6_3) rfl ?_
    show Steps p.tables e below (s₁.setTop (mkF m 5 #[.val (.ref a1), .val (.int (0 : Int32)), .val (.ref a2), .val (.int (0 : Int32)), .val (.int (1 : Int32)), .val (.int (0 : Int32)), .unset] [(.int (0 : Int32))])) _
    refine XS.iload X0.here hx rfl (hb hby d6_5) rfl ?_
    show Steps p.tables e below (s₁.setTop (mkF m 7 #[.val (.ref a1), .val (.int (0 : Int32)), .val (.ref a2), .val (.int (0 : Int32)), .val (.int (1 : Int32)), .val (.int (0 : Int32)), .unset] [(.int (1 : Int32)), (.int (0 : Int32))])) _
    refine XS.icmpNo X0.here hx rfl (hb hby d6_7) rfl (by decide) ?_
    show Steps p.tables e below (s₁.setTop (mkF m 10 #[.val (.ref a1), .val (.int (0 : Int32)), .val (.ref a2), .val (.int (0 : Int32)), .val (.int (1 : Int32)), .val (.int (0 : Int32)), .unset] [])) _
    refine XS.aloadN X0.here hx rfl (hb hby d6_10) rfl rfl ?_
    show Steps p.tables e below (s₁.setTop (mkF m 11 #[.val (.ref a1), .val (.int (0 : Int32)), .val (.ref a2), .val (.int (0 : Int32)), .val (.int (1 : Int32)), .val (.int (0 : Int32)), .unset] [(.ref a1)])) _
    refine XS.iloadN X0.here hx rfl (hb hby d6_11) rfl ?_
    show Steps p.tables e below (s₁.setTop (mkF m 12 #[.val (.ref a1), .val (.int (0 : Int32)), .val (.ref a2), .val (.int (0 : Int32)), .val (.int (1 : Int32)), .val (.int (0 : Int32)), .unset] [(.int (0 : Int32)), (.ref a1)])) _
    refine X0.caload hx (j := (0 : Int32)) (v := (.int c0)) (by rw [e0]; exact Ar1.1) (State.isArrayOf_alike hZ.alike Ar1.2.1) Ar1.2.2 hin1 hat1 (g := (mkF m 12 #[.val (.ref a1), .val (.int (0 : Int32)), .val (.ref a2), .val (.int (0 : Int32)), .val (.int (1 : Int32)), .val (.int (0 : Int32)), .unset] [(.int (0 : Int32)), (.ref a1)])) rfl rfl (hb hby d6_12) _ ?_
    show Steps p.tables e below (s₁.setTop (mkF m 13 #[.val (.ref a1), .val (.int (0 : Int32)), .val (.ref a2), .val (.int (0 : Int32)), .val (.int (1 : Int32)), .val (.int (0 : Int32)), .unset] [(.int c0)])) _
    refine XS.istore X0.here hx rfl (hb hby d6_13) rfl (l' := #[.val (.ref a1), .val (.int (0 : Int32)), .val (.ref a2), .val (.int (0 : Int32)), .val (.int (1 : Int32)), .val (.int (0 : Int32)), .val (.int c0)]) rfl ?_
    show Steps p.tables e below (s₁.setTop (mkF m 15 #[.val (.ref a1), .val (.int (0 : Int32)), .val (.ref a2), .val (.int (0 : Int32)), .val (.int (1 : Int32)), .val (.int (0 : Int32)), .val (.int c0)] [])) _
    refine XS.iload X0.here hx rfl (hb hby d6_15) rfl ?_
    show Steps p.tables e below (s₁.setTop (mkF m 17 #[.val (.ref a1), .val (.int (0 : Int32)), .val (.ref a2), .val (.int (0 : Int32)), .val (.int (1 : Int32)), .val (.int (0 : Int32)), .val (.int c0)] [(.int c0)])) _
    refine XS.sipush X0.here hx rfl (hb hby d6_17) ?_
    show Steps p.tables e below (s₁.setTop (mkF m 20 #[.val (.ref a1), .val (.int (0 : Int32)), .val (.ref a2), .val (.int (0 : Int32)), .val (.int (1 : Int32)), .val (.int (0 : Int32)), .val (.int c0)] [(.int (255 : Int32)), (.int c0)])) _
    refine XS.icmpYes X0.here hx rfl (pc0 := 20) (pc' := 26) rfl (hb hby d6_20) rfl (flt hk0).2.2.2 (by decide) (by decide) ?_
    show Steps p.tables e below (s₁.setTop (mkF m 26 #[.val (.ref a1), .val (.int (0 : Int32)), .val (.ref a2), .val (.int (0 : Int32)), .val (.int (1 : Int32)), .val (.int (0 : Int32)), .val (.int c0)] [])) _
    refine XS.aloadN X0.here hx rfl (hb hby d6_26) rfl rfl ?_
    show Steps p.tables e below (s₁.setTop (mkF m 27 #[.val (.ref a1), .val (.int (0 : Int32)), .val (.ref a2), .val (.int (0 : Int32)), .val (.int (1 : Int32)), .val (.int (0 : Int32)), .val (.int c0)] [(.ref a2)])) _
    refine XS.iloadN X0.here hx rfl (hb hby d6_27) rfl ?_
    show Steps p.tables e below (s₁.setTop (mkF m 28 #[.val (.ref a1), .val (.int (0 : Int32)), .val (.ref a2), .val (.int (0 : Int32)), .val (.int (1 : Int32)), .val (.int (0 : Int32)), .val (.int c0)] [(.int (0 : Int32)), (.ref a2)])) _
    refine XS.iload X0.here hx rfl (hb hby d6_28) rfl ?_
    show Steps p.tables e below (s₁.setTop (mkF m 30 #[.val (.ref a1), .val (.int (0 : Int32)), .val (.ref a2), .val (.int (0 : Int32)), .val (.int (1 : Int32)), .val (.int (0 : Int32)), .val (.int c0)] [(.int c0), (.int (0 : Int32)), (.ref a2)])) _
    refine XS.i2b X0.here hx rfl (hb hby d6_30) rfl ?_
    show Steps p.tables e below (s₁.setTop (mkF m 31 #[.val (.ref a1), .val (.int (0 : Int32)), .val (.ref a2), .val (.int (0 : Int32)), .val (.int (1 : Int32)), .val (.int (0 : Int32)), .val (.int c0)] [(.int (c0.toInt8.toInt32)), (.int (0 : Int32)), (.ref a2)])) _
    refine st2 _ ?_
    show Steps p.tables e below (T2.setTop (mkF m 32 #[.val (.ref a1), .val (.int (0 : Int32)), .val (.ref a2), .val (.int (0 : Int32)), .val (.int (1 : Int32)), .val (.int (0 : Int32)), .val (.int c0)] [])) _
    refine XS.iinc X2.here hx rfl (hb hby d6_32) rfl (l' := #[.val (.ref a1), .val (.int (1 : Int32)), .val (.ref a2), .val (.int (0 : Int32)), .val (.int (1 : Int32)), .val (.int (0 : Int32)), .val (.int c0)]) rfl ?_
    show Steps p.tables e below (T2.setTop (mkF m 35 #[.val (.ref a1), .val (.int (1 : Int32)), .val (.ref a2), .val (.int (0 : Int32)), .val (.int (1 : Int32)), .val (.int (0 : Int32)), .val (.int c0)] [])) _
    refine XS.iinc X2.here hx rfl (hb hby d6_35) rfl (l' := #[.val (.ref a1), .val (.int (1 : Int32)), .val (.ref a2), .val (.int (1 : Int32)), .val (.int (1 : Int32)), .val (.int (0 : Int32)), .val (.int c0)]) rfl ?_
    show Steps p.tables e below (T2.setTop (mkF m 38 #[.val (.ref a1), .val (.int (1 : Int32)), .val (.ref a2), .val (.int (1 : Int32)), .val (.int (1 : Int32)), .val (.int (0 : Int32)), .val (.int c0)] [])) _
    refine XS.iinc X2.here hx rfl (hb hby d6_38) rfl (l' := #[.val (.ref a1), .val (.int (1 : Int32)), .val (.ref a2), .val (.int (1 : Int32)), .val (.int (1 : Int32)), .val (.int (1 : Int32)), .val (.int c0)]) rfl ?_
    show Steps p.tables e below (T2.setTop (mkF m 41 #[.val (.ref a1), .val (.int (1 : Int32)), .val (.ref a2), .val (.int (1 : Int32)), .val (.int (1 : Int32)), .val (.int (1 : Int32)), .val (.int c0)] [])) _
    refine XS.goto X2.here hx rfl (pc0 := 41) (pc' := 3) rfl (hb hby d6_41) (by decide) (by decide) ?_
    show Steps p.tables e below (T2.setTop (mkF m 3 #[.val (.ref a1), .val (.int (1 : Int32)), .val (.ref a2), .val (.int (1 : Int32)), .val (.int (1 : Int32)), .val (.int (1 : Int32)), .val (.int c0)] [])) _
    refine XS.iload X2.here hx rfl (hb hby d6_3) rfl ?_
    show Steps p.tables e below (T2.setTop (mkF m 5 #[.val (.ref a1), .val (.int (1 : Int32)), .val (.ref a2), .val (.int (1 : Int32)), .val (.int (1 : Int32)), .val (.int (1 : Int32)), .val (.int c0)] [(.int (1 : Int32))])) _
    refine XS.iload X2.here hx rfl (hb hby d6_5) rfl ?_
    show Steps p.tables e below (T2.setTop (mkF m 7 #[.val (.ref a1), .val (.int (1 : Int32)), .val (.ref a2), .val (.int (1 : Int32)), .val (.int (1 : Int32)), .val (.int (1 : Int32)), .val (.int c0)] [(.int (1 : Int32)), (.int (1 : Int32))])) _
    refine XS.icmpYes X2.here hx rfl (pc0 := 7) (pc' := 44) rfl (hb hby d6_7) rfl (by decide) (by decide) (by decide) ?_
    show Steps p.tables e below (T2.setTop (mkF m 44 #[.val (.ref a1), .val (.int (1 : Int32)), .val (.ref a2), .val (.int (1 : Int32)), .val (.int (1 : Int32)), .val (.int (1 : Int32)), .val (.int c0)] [])) _
    refine XS.iload X2.here hx rfl (hb hby d6_44) rfl ?_
    show Steps p.tables e below (T2.setTop (mkF m 46 #[.val (.ref a1), .val (.int (1 : Int32)), .val (.ref a2), .val (.int (1 : Int32)), .val (.int (1 : Int32)), .val (.int (1 : Int32)), .val (.int c0)] [(.int (1 : Int32))])) _
    exact retOut X2 hx Bd.returns rfl (Or.inl ⟨rfl, Or.inl rfl, _, rfl⟩) (hb hby d6_46) hr
  · show Qcp1l Z a1 kc a2 kk c0 h0 n0 _ T2.heap _
    rw [e2]
    exact ⟨N2, K3, V2, rfl⟩
theorem d6_23 : decode jdk_52_method_21_code 23 = .ok (.iload 5, 2) := by decide +kernel
theorem d6_25 : decode jdk_52_method_21_code 25 = .ok (.ireturn, 1) := by decide +kernel
theorem ef_cp1u (m : MethodId) (a1 : Addr) (a2 : Addr) : entryFrame m #[(.ref a1), (.int (0 : Int32)), (.ref a2), (.int (0 : Int32)), (.int (1 : Int32))] 7 = mkF m 0 #[.val (.ref a1), .val (.int (0 : Int32)), .val (.ref a2), .val (.int (0 : Int32)), .val (.int (1 : Int32)), .unset, .unset] [] := by first | (simp [entryFrame, mkF, argsToLocals, Value.category]; done) | rfl
def Qcp1u (Z : State) (a1 : Addr) (kc : ClassId) (a2 : Addr) (kk : ClassId) (c0 : Int32) (h0 : Heap) (n0 : Nat) (v : Option Value) (h : Heap) (L : List Loc) : Prop := Fr n0 L ∧ h = h0 ∧ (v = some (.int (0 : Int32)))
set_option maxRecDepth 65536 in
set_option maxHeartbeats 40000000 in
theorem rmCp1u (l : Launch) (Z : State) (a0 : Array Value) (hw : ∀ d ∈ tables_1, d.before a0 Z = true) (ws : List Jvm.Cond) (a1 : Addr) (kc : ClassId) (a2 : Addr) (kk : ClassId) (c0 : Int32) (h0 : Heap) (n0 : Nat) (Z0 : n0 ≤ h0.size) (hVc : Arv Z h0 a1 kc .char (1 : Int32) [(.int c0)] (.int (0 : Int32))) (hV : Arv Z h0 a2 kk .byte (1 : Int32) [(.int (0 : Int32))] (.int (0 : Int32))) (hG2 : n0 ≤ a2) (hne : a1 ≠ a2) (hk0 : (255 : Int32) < c0) :
    MetFree l (⟨"java/lang/StringUTF16", "compress", "([CI[BII)I"⟩ : MethodName) (head1 (Jvm.Cond.code (⟨"java/lang/StringUTF16", "compress", "([CI[BII)I"⟩ : MethodName) jdk_52_method_21_code 7 (some .int) :: ws) ({ frames := 0, cells := 0, slots := 0, locals := 0 } : Room)) (fun a U => a = #[(.ref a1), (.int (0 : Int32)), (.ref a2), (.int (0 : Int32)), (.int (1 : Int32))] ∧ Z.Warmed39 U.vm ∧ U.heap = h0) (fun _ _ _ _ _ => True) (fun _ U o U' => ∃ v L, o = .returned v ∧ Qcp1u Z a1 kc a2 kk c0 h0 n0 v U'.heap L ∧ FrameEnd U o U' L ({ frames := 0, cells := 0, slots := 0, locals := 0 } : Room).cells ({ frames := 0, cells := 0, slots := 0, locals := 0 } : Room).slots) := by
  refine MetFree.of_bodySF (plainFor_of_name own_pn_6) hisR ?_
  intro p e s m args below meth c s₁ Bd hml0 hP hK
  obtain ⟨rfl, hZ, hh⟩ := hP
  have hx := Bd.exec
  have hby := Bd.bytes
  have hml : c.maxLocals = 7 := hml0
  have hown : s.vm.findClass "java/lang/StringUTF16" = some m.cls := findClass_of_methodNamed Bd.named
  have hnm := (name_of_methodNamed Bd.named Bd.method).1
  have X0 : Stand p l e ({ frames := 0, cells := 0, slots := 0, locals := 0 } : Room) s m #[(.ref a1), (.int (0 : Int32)), (.ref a2), (.int (0 : Int32)), (.int (1 : Int32))] below meth c s₁ [] 0 0 := Stand.of_body Bd
  have e0 : s₁.heap = h0 := by rw [← hh, Bd.state]; rfl
  have N0 := Fr.nil n0
  have pre0 : ∀ t, Steps p.tables e below (s₁.setTop (mkF m 0 #[.val (.ref a1), .val (.int (0 : Int32)), .val (.ref a2), .val (.int (0 : Int32)), .val (.int (1 : Int32)), .unset, .unset] [])) t → Steps p.tables e below (s₁.setTop (entryFrame m #[(.ref a1), (.int (0 : Int32)), (.ref a2), (.int (0 : Int32)), (.int (1 : Int32))] 7)) t := fun t k => castTop (ef_cp1u m a1 a2) k
  obtain ⟨cl1, Ar1, q1, S1, M1, H1, G1⟩ := id hVc
  have hin1 : ¬ ((0 : Int32) < 0 ∨ cl1.slots.size ≤ ((0 : Int32)).toNatClampNeg) := inb_of S1 ⟨by decide, by decide⟩
  have hat1 : cl1.slots[((0 : Int32)).toNatClampNeg]? = some (.int c0) := H1.at hin1 rfl
  obtain ⟨fs, hr, hrun, hended, hW, hsame⟩ := X0.leave (v := (some (.int (0 : Int32)))) (fun h => by rw [Bd.returns] at h; cases h)
  refine ⟨_, _, pre0 _ ?_, hrun, hended, _, _, rfl, ?_, ⟨_, rfl⟩, hW, hsame.mono (by decide) (by decide)⟩
  · show Steps p.tables e below (s₁.setTop (mkF m 0 #[.val (.ref a1), .val (.int (0 : Int32)), .val (.ref a2), .val (.int (0 : Int32)), .val (.int (1 : Int32)), .unset, .unset] [])) _
    refine XS.iconst X0.here hx rfl (hb hby d6_0) ?_
    show Steps p.tables e below (s₁.setTop (mkF m 1 #[.val (.ref a1), .val (.int (0 : Int32)), .val (.ref a2), .val (.int (0 : Int32)), .val (.int (1 : Int32)), .unset, .unset] [(.int (0 : Int32))])) _
    refine XS.istore X0.here hx rfl (hb hby d6_1) rfl (l' := #[.val (.ref a1), .val (.int (0 : Int32)), .val (.ref a2), .val (.int (0 : Int32)), .val (.int (1 : Int32)), .val (.int (0 : Int32)), .unset]) rfl ?_
    show Steps p.tables e below (s₁.setTop (mkF m 3 #[.val (.ref a1), .val (.int (0 : Int32)), .val (.ref a2), .val (.int (0 : Int32)), .val (.int (1 : Int32)), .val (.int (0 : Int32)), .unset] [])) _
    refine XS.iload X0.here hx rfl (hb hby d6_3) rfl ?_
    show Steps p.tables e below (s₁.setTop (mkF m 5 #[.val (.ref a1), .val (.int (0 : Int32)), .val (.ref a2), .val (.int (0 : Int32)), .val (.int (1 : Int32)), .val (.int (0 : Int32)), .unset] [(.int (0 : Int32))])) _
    refine XS.iload X0.here hx rfl (hb hby d6_5) rfl ?_
    show Steps p.tables e below (s₁.setTop (mkF m 7 #[.val (.ref a1), .val (.int (0 : Int32)), .val (.ref a2), .val (.int (0 : Int32)), .val (.int (1 : Int32)), .val (.int (0 : Int32)), .unset] [(.int (1 : Int32)), (.int (0 : Int32))])) _
    refine XS.icmpNo X0.here hx rfl (hb hby d6_7) rfl (by decide) ?_
    show Steps p.tables e below (s₁.setTop (mkF m 10 #[.val (.ref a1), .val (.int (0 : Int32)), .val (.ref a2), .val (.int (0 : Int32)), .val (.int (1 : Int32)), .val (.int (0 : Int32)), .unset] [])) _
    refine XS.aloadN X0.here hx rfl (hb hby d6_10) rfl rfl ?_
    show Steps p.tables e below (s₁.setTop (mkF m 11 #[.val (.ref a1), .val (.int (0 : Int32)), .val (.ref a2), .val (.int (0 : Int32)), .val (.int (1 : Int32)), .val (.int (0 : Int32)), .unset] [(.ref a1)])) _
    refine XS.iloadN X0.here hx rfl (hb hby d6_11) rfl ?_
    show Steps p.tables e below (s₁.setTop (mkF m 12 #[.val (.ref a1), .val (.int (0 : Int32)), .val (.ref a2), .val (.int (0 : Int32)), .val (.int (1 : Int32)), .val (.int (0 : Int32)), .unset] [(.int (0 : Int32)), (.ref a1)])) _
    refine X0.caload hx (j := (0 : Int32)) (v := (.int c0)) (by rw [e0]; exact Ar1.1) (State.isArrayOf_alike hZ.alike Ar1.2.1) Ar1.2.2 hin1 hat1 (g := (mkF m 12 #[.val (.ref a1), .val (.int (0 : Int32)), .val (.ref a2), .val (.int (0 : Int32)), .val (.int (1 : Int32)), .val (.int (0 : Int32)), .unset] [(.int (0 : Int32)), (.ref a1)])) rfl rfl (hb hby d6_12) _ ?_
    show Steps p.tables e below (s₁.setTop (mkF m 13 #[.val (.ref a1), .val (.int (0 : Int32)), .val (.ref a2), .val (.int (0 : Int32)), .val (.int (1 : Int32)), .val (.int (0 : Int32)), .unset] [(.int c0)])) _
    refine XS.istore X0.here hx rfl (hb hby d6_13) rfl (l' := #[.val (.ref a1), .val (.int (0 : Int32)), .val (.ref a2), .val (.int (0 : Int32)), .val (.int (1 : Int32)), .val (.int (0 : Int32)), .val (.int c0)]) rfl ?_
    show Steps p.tables e below (s₁.setTop (mkF m 15 #[.val (.ref a1), .val (.int (0 : Int32)), .val (.ref a2), .val (.int (0 : Int32)), .val (.int (1 : Int32)), .val (.int (0 : Int32)), .val (.int c0)] [])) _
    refine XS.iload X0.here hx rfl (hb hby d6_15) rfl ?_
    show Steps p.tables e below (s₁.setTop (mkF m 17 #[.val (.ref a1), .val (.int (0 : Int32)), .val (.ref a2), .val (.int (0 : Int32)), .val (.int (1 : Int32)), .val (.int (0 : Int32)), .val (.int c0)] [(.int c0)])) _
    refine XS.sipush X0.here hx rfl (hb hby d6_17) ?_
    show Steps p.tables e below (s₁.setTop (mkF m 20 #[.val (.ref a1), .val (.int (0 : Int32)), .val (.ref a2), .val (.int (0 : Int32)), .val (.int (1 : Int32)), .val (.int (0 : Int32)), .val (.int c0)] [(.int (255 : Int32)), (.int c0)])) _
    refine XS.icmpNo X0.here hx rfl (hb hby d6_20) rfl (tlt hk0).2.2.2 ?_
    show Steps p.tables e below (s₁.setTop (mkF m 23 #[.val (.ref a1), .val (.int (0 : Int32)), .val (.ref a2), .val (.int (0 : Int32)), .val (.int (1 : Int32)), .val (.int (0 : Int32)), .val (.int c0)] [])) _
    refine XS.iload X0.here hx rfl (hb hby d6_23) rfl ?_
    show Steps p.tables e below (s₁.setTop (mkF m 25 #[.val (.ref a1), .val (.int (0 : Int32)), .val (.ref a2), .val (.int (0 : Int32)), .val (.int (1 : Int32)), .val (.int (0 : Int32)), .val (.int c0)] [(.int (0 : Int32))])) _
    exact retOut X0 hx Bd.returns rfl (Or.inl ⟨rfl, Or.inl rfl, _, rfl⟩) (hb hby d6_25) hr
  · show Qcp1u Z a1 kc a2 kk c0 h0 n0 _ s₁.heap _
    rw [e0]
    exact ⟨N0, rfl, rfl⟩
theorem ef_cp2l (m : MethodId) (a1 : Addr) (a2 : Addr) : entryFrame m #[(.ref a1), (.int (0 : Int32)), (.ref a2), (.int (0 : Int32)), (.int (2 : Int32))] 7 = mkF m 0 #[.val (.ref a1), .val (.int (0 : Int32)), .val (.ref a2), .val (.int (0 : Int32)), .val (.int (2 : Int32)), .unset, .unset] [] := by first | (simp [entryFrame, mkF, argsToLocals, Value.category]; done) | rfl
def Qcp2l (Z : State) (a1 : Addr) (kc : ClassId) (a2 : Addr) (kk : ClassId) (c0 : Int32) (c1 : Int32) (h0 : Heap) (n0 : Nat) (v : Option Value) (h : Heap) (L : List Loc) : Prop := Fr n0 L ∧ Keep h0 h [a2] ∧ Arv Z h a2 kk .byte (2 : Int32) [(.int ((c0.toInt8.toInt32).toInt8.toInt32)), (.int ((c1.toInt8.toInt32).toInt8.toInt32))] (.int (0 : Int32)) ∧ (v = some (.int (2 : Int32)))
set_option maxRecDepth 65536 in
set_option maxHeartbeats 40000000 in
theorem rmCp2l (l : Launch) (Z : State) (a0 : Array Value) (hw : ∀ d ∈ tables_1, d.before a0 Z = true) (ws : List Jvm.Cond) (a1 : Addr) (kc : ClassId) (a2 : Addr) (kk : ClassId) (c0 : Int32) (c1 : Int32) (h0 : Heap) (n0 : Nat) (Z0 : n0 ≤ h0.size) (hVc : Arv Z h0 a1 kc .char (2 : Int32) [(.int c0), (.int c1)] (.int (0 : Int32))) (hV : Arv Z h0 a2 kk .byte (2 : Int32) [(.int (0 : Int32)), (.int (0 : Int32))] (.int (0 : Int32))) (hG2 : n0 ≤ a2) (hne : a1 ≠ a2) (hk0 : ¬ ((255 : Int32) < c0)) (hk1 : ¬ ((255 : Int32) < c1)) :
    MetFree l (⟨"java/lang/StringUTF16", "compress", "([CI[BII)I"⟩ : MethodName) (head1 (Jvm.Cond.code (⟨"java/lang/StringUTF16", "compress", "([CI[BII)I"⟩ : MethodName) jdk_52_method_21_code 7 (some .int) :: ws) ({ frames := 0, cells := 0, slots := 0, locals := 0 } : Room)) (fun a U => a = #[(.ref a1), (.int (0 : Int32)), (.ref a2), (.int (0 : Int32)), (.int (2 : Int32))] ∧ Z.Warmed39 U.vm ∧ U.heap = h0) (fun _ _ _ _ _ => True) (fun _ U o U' => ∃ v L, o = .returned v ∧ Qcp2l Z a1 kc a2 kk c0 c1 h0 n0 v U'.heap L ∧ FrameEnd U o U' L ({ frames := 0, cells := 0, slots := 0, locals := 0 } : Room).cells ({ frames := 0, cells := 0, slots := 0, locals := 0 } : Room).slots) := by
  refine MetFree.of_bodySF (plainFor_of_name own_pn_6) hisR ?_
  intro p e s m args below meth c s₁ Bd hml0 hP hK
  obtain ⟨rfl, hZ, hh⟩ := hP
  have hx := Bd.exec
  have hby := Bd.bytes
  have hml : c.maxLocals = 7 := hml0
  have hown : s.vm.findClass "java/lang/StringUTF16" = some m.cls := findClass_of_methodNamed Bd.named
  have hnm := (name_of_methodNamed Bd.named Bd.method).1
  have X0 : Stand p l e ({ frames := 0, cells := 0, slots := 0, locals := 0 } : Room) s m #[(.ref a1), (.int (0 : Int32)), (.ref a2), (.int (0 : Int32)), (.int (2 : Int32))] below meth c s₁ [] 0 0 := Stand.of_body Bd
  have e0 : s₁.heap = h0 := by rw [← hh, Bd.state]; rfl
  have N0 := Fr.nil n0
  have pre0 : ∀ t, Steps p.tables e below (s₁.setTop (mkF m 0 #[.val (.ref a1), .val (.int (0 : Int32)), .val (.ref a2), .val (.int (0 : Int32)), .val (.int (2 : Int32)), .unset, .unset] [])) t → Steps p.tables e below (s₁.setTop (entryFrame m #[(.ref a1), (.int (0 : Int32)), (.ref a2), (.int (0 : Int32)), (.int (2 : Int32))] 7)) t := fun t k => castTop (ef_cp2l m a1 a2) k
  obtain ⟨cl1, Ar1, q1, S1, M1, H1, G1⟩ := id hVc
  have hin1 : ¬ ((0 : Int32) < 0 ∨ cl1.slots.size ≤ ((0 : Int32)).toNatClampNeg) := inb_of S1 ⟨by decide, by decide⟩
  have hat1 : cl1.slots[((0 : Int32)).toNatClampNeg]? = some (.int c0) := H1.at hin1 rfl
  obtain ⟨cl2, Ar2, q2, S2, M2, H2, G2⟩ := id hV
  have hin2 : ¬ ((0 : Int32) < 0 ∨ cl2.slots.size ≤ ((0 : Int32)).toNatClampNeg) := inb_of S2 ⟨by decide, by decide⟩
  obtain ⟨T2, h2, X2, e2, W2, st2⟩ := stB X0 hx hZ e0 Ar2 (j := (0 : Int32)) hin2 (g := (mkF m 31 #[.val (.ref a1), .val (.int (0 : Int32)), .val (.ref a2), .val (.int (0 : Int32)), .val (.int (2 : Int32)), .val (.int (0 : Int32)), .val (.int c0)] [(.int (c0.toInt8.toInt32)), (.int (0 : Int32)), (.ref a2)])) rfl rfl (hb hby d6_31)
  have N2 := Fr.snoc X2 N0 hG2
  have K3 : Keep h0 h2 [a2] := (Keep.refl h0 [a2]).wr W2 (Or.inl (List.mem_of_getElem? (i := 0) rfl))
  have V2 : Arv Z h2 a2 kk .byte (2 : Int32) [(.int ((c0.toInt8.toInt32).toInt8.toInt32)), (.int (0 : Int32))] (.int (0 : Int32)) := Arv.set Ar2 q2 S2 M2 H2 G2 (fits_nar_byte _) W2 0 rfl (Nat.le_of_ble_eq_true rfl)
  have f4 : Arv Z h2 a1 kc .char (2 : Int32) [(.int c0), (.int c1)] (.int (0 : Int32)) := (hVc.other W2 hne)
  obtain ⟨cl5, Ar5, q5, S5, M5, H5, G5⟩ := id f4
  have hin5 : ¬ ((1 : Int32) < 0 ∨ cl5.slots.size ≤ ((1 : Int32)).toNatClampNeg) := inb_of S5 ⟨by decide, by decide⟩
  have hat5 : cl5.slots[((1 : Int32)).toNatClampNeg]? = some (.int c1) := H5.at hin5 rfl
  obtain ⟨cl6, Ar6, q6, S6, M6, H6, G6⟩ := id V2
  have hin6 : ¬ ((1 : Int32) < 0 ∨ cl6.slots.size ≤ ((1 : Int32)).toNatClampNeg) := inb_of S6 ⟨by decide, by decide⟩
  obtain ⟨T6, h6, X6, e6, W6, st6⟩ := stB X2 hx hZ e2 Ar6 (j := (1 : Int32)) hin6 (g := (mkF m 31 #[.val (.ref a1), .val (.int (1 : Int32)), .val (.ref a2), .val (.int (1 : Int32)), .val (.int (2 : Int32)), .val (.int (1 : Int32)), .val (.int c1)] [(.int (c1.toInt8.toInt32)), (.int (1 : Int32)), (.ref a2)])) rfl rfl (hb hby d6_31)
  have N6 := Fr.snoc X6 N2 hG2
  have K7 : Keep h0 h6 [a2] := K3.wr W6 (Or.inl (List.mem_of_getElem? (i := 0) rfl))
  have V6 : Arv Z h6 a2 kk .byte (2 : Int32) [(.int ((c0.toInt8.toInt32).toInt8.toInt32)), (.int ((c1.toInt8.toInt32).toInt8.toInt32))] (.int (0 : Int32)) := Arv.set Ar6 q6 S6 M6 H6 G6 (fits_nar_byte _) W6 1 rfl (Nat.le_of_ble_eq_true rfl)
  obtain ⟨fs, hr, hrun, hended, hW, hsame⟩ := X6.leave (v := (some (.int (2 : Int32)))) (fun h => by rw [Bd.returns] at h; cases h)
  refine ⟨_, _, pre0 _ ?_, hrun, hended, _, _, rfl, ?_, ⟨_, rfl⟩, hW, hsame.mono (by decide) (by decide)⟩
  · show Steps p.tables e below (s₁.setTop (mkF m 0 #[.val (.ref a1), .val (.int (0 : Int32)), .val (.ref a2), .val (.int (0 : Int32)), .val (.int (2 : Int32)), .unset, .unset] [])) _
    refine XS.iconst X0.here hx rfl (hb hby d6_0) ?_
    show Steps p.tables e below (s₁.setTop (mkF m 1 #[.val (.ref a1), .val (.int (0 : Int32)), .val (.ref a2), .val (.int (0 : Int32)), .val (.int (2 : Int32)), .unset, .unset] [(.int (0 : Int32))])) _
    refine XS.istore X0.here hx rfl (hb hby d6_1) rfl (l' := #[.val (.ref a1), .val (.int (0 : Int32)), .val (.ref a2), .val (.int (0 : Int32)), .val (.int (2 : Int32)), .val (.int (0 : Int32)), .unset]) rfl ?_
    show Steps p.tables e below (s₁.setTop (mkF m 3 #[.val (.ref a1), .val (.int (0 : Int32)), .val (.ref a2), .val (.int (0 : Int32)), .val (.int (2 : Int32)), .val (.int (0 : Int32)), .unset] [])) _
    refine XS.iload X0.here hx rfl (hb hby d6_3) rfl ?_
    show Steps p.tables e below (s₁.setTop (mkF m 5 #[.val (.ref a1), .val (.int (0 : Int32)), .val (.ref a2), .val (.int (0 : Int32)), .val (.int (2 : Int32)), .val (.int (0 : Int32)), .unset] [(.int (0 : Int32))])) _
    refine XS.iload X0.here hx rfl (hb hby d6_5) rfl ?_
    show Steps p.tables e below (s₁.setTop (mkF m 7 #[.val (.ref a1), .val (.int (0 : Int32)), .val (.ref a2), .val (.int (0 : Int32)), .val (.int (2 : Int32)), .val (.int (0 : Int32)), .unset] [(.int (2 : Int32)), (.int (0 : Int32))])) _
    refine XS.icmpNo X0.here hx rfl (hb hby d6_7) rfl (by decide) ?_
    show Steps p.tables e below (s₁.setTop (mkF m 10 #[.val (.ref a1), .val (.int (0 : Int32)), .val (.ref a2), .val (.int (0 : Int32)), .val (.int (2 : Int32)), .val (.int (0 : Int32)), .unset] [])) _
    refine XS.aloadN X0.here hx rfl (hb hby d6_10) rfl rfl ?_
    show Steps p.tables e below (s₁.setTop (mkF m 11 #[.val (.ref a1), .val (.int (0 : Int32)), .val (.ref a2), .val (.int (0 : Int32)), .val (.int (2 : Int32)), .val (.int (0 : Int32)), .unset] [(.ref a1)])) _
    refine XS.iloadN X0.here hx rfl (hb hby d6_11) rfl ?_
    show Steps p.tables e below (s₁.setTop (mkF m 12 #[.val (.ref a1), .val (.int (0 : Int32)), .val (.ref a2), .val (.int (0 : Int32)), .val (.int (2 : Int32)), .val (.int (0 : Int32)), .unset] [(.int (0 : Int32)), (.ref a1)])) _
    refine X0.caload hx (j := (0 : Int32)) (v := (.int c0)) (by rw [e0]; exact Ar1.1) (State.isArrayOf_alike hZ.alike Ar1.2.1) Ar1.2.2 hin1 hat1 (g := (mkF m 12 #[.val (.ref a1), .val (.int (0 : Int32)), .val (.ref a2), .val (.int (0 : Int32)), .val (.int (2 : Int32)), .val (.int (0 : Int32)), .unset] [(.int (0 : Int32)), (.ref a1)])) rfl rfl (hb hby d6_12) _ ?_
    show Steps p.tables e below (s₁.setTop (mkF m 13 #[.val (.ref a1), .val (.int (0 : Int32)), .val (.ref a2), .val (.int (0 : Int32)), .val (.int (2 : Int32)), .val (.int (0 : Int32)), .unset] [(.int c0)])) _
    refine XS.istore X0.here hx rfl (hb hby d6_13) rfl (l' := #[.val (.ref a1), .val (.int (0 : Int32)), .val (.ref a2), .val (.int (0 : Int32)), .val (.int (2 : Int32)), .val (.int (0 : Int32)), .val (.int c0)]) rfl ?_
    show Steps p.tables e below (s₁.setTop (mkF m 15 #[.val (.ref a1), .val (.int (0 : Int32)), .val (.ref a2), .val (.int (0 : Int32)), .val (.int (2 : Int32)), .val (.int (0 : Int32)), .val (.int c0)] [])) _
    refine XS.iload X0.here hx rfl (hb hby d6_15) rfl ?_
    show Steps p.tables e below (s₁.setTop (mkF m 17 #[.val (.ref a1), .val (.int (0 : Int32)), .val (.ref a2), .val (.int (0 : Int32)), .val (.int (2 : Int32)), .val (.int (0 : Int32)), .val (.int c0)] [(.int c0)])) _
    refine XS.sipush X0.here hx rfl (hb hby d6_17) ?_
    show Steps p.tables e below (s₁.setTop (mkF m 20 #[.val (.ref a1), .val (.int (0 : Int32)), .val (.ref a2), .val (.int (0 : Int32)), .val (.int (2 : Int32)), .val (.int (0 : Int32)), .val (.int c0)] [(.int (255 : Int32)), (.int c0)])) _
    refine XS.icmpYes X0.here hx rfl (pc0 := 20) (pc' := 26) rfl (hb hby d6_20) rfl (flt hk0).2.2.2 (by decide) (by decide) ?_
    show Steps p.tables e below (s₁.setTop (mkF m 26 #[.val (.ref a1), .val (.int (0 : Int32)), .val (.ref a2), .val (.int (0 : Int32)), .val (.int (2 : Int32)), .val (.int (0 : Int32)), .val (.int c0)] [])) _
    refine XS.aloadN X0.here hx rfl (hb hby d6_26) rfl rfl ?_
    show Steps p.tables e below (s₁.setTop (mkF m 27 #[.val (.ref a1), .val (.int (0 : Int32)), .val (.ref a2), .val (.int (0 : Int32)), .val (.int (2 : Int32)), .val (.int (0 : Int32)), .val (.int c0)] [(.ref a2)])) _
    refine XS.iloadN X0.here hx rfl (hb hby d6_27) rfl ?_
    show Steps p.tables e below (s₁.setTop (mkF m 28 #[.val (.ref a1), .val (.int (0 : Int32)), .val (.ref a2), .val (.int (0 : Int32)), .val (.int (2 : Int32)), .val (.int (0 : Int32)), .val (.int c0)] [(.int (0 : Int32)), (.ref a2)])) _
    refine XS.iload X0.here hx rfl (hb hby d6_28) rfl ?_
    show Steps p.tables e below (s₁.setTop (mkF m 30 #[.val (.ref a1), .val (.int (0 : Int32)), .val (.ref a2), .val (.int (0 : Int32)), .val (.int (2 : Int32)), .val (.int (0 : Int32)), .val (.int c0)] [(.int c0), (.int (0 : Int32)), (.ref a2)])) _
    refine XS.i2b X0.here hx rfl (hb hby d6_30) rfl ?_
    show Steps p.tables e below (s₁.setTop (mkF m 31 #[.val (.ref a1), .val (.int (0 : Int32)), .val (.ref a2), .val (.int (0 : Int32)), .val (.int (2 : Int32)), .val (.int (0 : Int32)), .val (.int c0)] [(.int (c0.toInt8.toInt32)), (.int (0 : Int32)), (.ref a2)])) _
    refine st2 _ ?_
    show Steps p.tables e below (T2.setTop (mkF m 32 #[.val (.ref a1), .val (.int (0 : Int32)), .val (.ref a2), .val (.int (0 : Int32)), .val (.int (2 : Int32)), .val (.int (0 : Int32)), .val (.int c0)] [])) _
    refine XS.iinc X2.here hx rfl (hb hby d6_32) rfl (l' := #[.val (.ref a1), .val (.int (1 : Int32)), .val (.ref a2), .val (.int (0 : Int32)), .val (.int (2 : Int32)), .val (.int (0 : Int32)), .val (.int c0)]) rfl ?_
    show Steps p.tables e below (T2.setTop (mkF m 35 #[.val (.ref a1), .val (.int (1 : Int32)), .val (.ref a2), .val (.int (0 : Int32)), .val (.int (2 : Int32)), .val (.int (0 : Int32)), .val (.int c0)] [])) _
    refine XS.iinc X2.here hx rfl (hb hby d6_35) rfl (l' := #[.val (.ref a1), .val (.int (1 : Int32)), .val (.ref a2), .val (.int (1 : Int32)), .val (.int (2 : Int32)), .val (.int (0 : Int32)), .val (.int c0)]) rfl ?_
    show Steps p.tables e below (T2.setTop (mkF m 38 #[.val (.ref a1), .val (.int (1 : Int32)), .val (.ref a2), .val (.int (1 : Int32)), .val (.int (2 : Int32)), .val (.int (0 : Int32)), .val (.int c0)] [])) _
    refine XS.iinc X2.here hx rfl (hb hby d6_38) rfl (l' := #[.val (.ref a1), .val (.int (1 : Int32)), .val (.ref a2), .val (.int (1 : Int32)), .val (.int (2 : Int32)), .val (.int (1 : Int32)), .val (.int c0)]) rfl ?_
    show Steps p.tables e below (T2.setTop (mkF m 41 #[.val (.ref a1), .val (.int (1 : Int32)), .val (.ref a2), .val (.int (1 : Int32)), .val (.int (2 : Int32)), .val (.int (1 : Int32)), .val (.int c0)] [])) _
    refine XS.goto X2.here hx rfl (pc0 := 41) (pc' := 3) rfl (hb hby d6_41) (by decide) (by decide) ?_
    show Steps p.tables e below (T2.setTop (mkF m 3 #[.val (.ref a1), .val (.int (1 : Int32)), .val (.ref a2), .val (.int (1 : Int32)), .val (.int (2 : Int32)), .val (.int (1 : Int32)), .val (.int c0)] [])) _
    refine XS.iload X2.here hx rfl (hb hby d6_3) rfl ?_
    show Steps p.tables e below (T2.setTop (mkF m 5 #[.val (.ref a1), .val (.int (1 : Int32)), .val (.ref a2), .val (.int (1 : Int32)), .val (.int (2 : Int32)), .val (.int (1 : Int32)), .val (.int c0)] [(.int (1 : Int32))])) _
    refine XS.iload X2.here hx rfl (hb hby d6_5) rfl ?_
    show Steps p.tables e below (T2.setTop (mkF m 7 #[.val (.ref a1), .val (.int (1 : Int32)), .val (.ref a2), .val (.int (1 : Int32)), .val (.int (2 : Int32)), .val (.int (1 : Int32)), .val (.int c0)] [(.int (2 : Int32)), (.int (1 : Int32))])) _
    refine XS.icmpNo X2.here hx rfl (hb hby d6_7) rfl (by decide) ?_
    show Steps p.tables e below (T2.setTop (mkF m 10 #[.val (.ref a1), .val (.int (1 : Int32)), .val (.ref a2), .val (.int (1 : Int32)), .val (.int (2 : Int32)), .val (.int (1 : Int32)), .val (.int c0)] [])) _
    refine XS.aloadN X2.here hx rfl (hb hby d6_10) rfl rfl ?_
    show Steps p.tables e below (T2.setTop (mkF m 11 #[.val (.ref a1), .val (.int (1 : Int32)), .val (.ref a2), .val (.int (1 : Int32)), .val (.int (2 : Int32)), .val (.int (1 : Int32)), .val (.int c0)] [(.ref a1)])) _
    refine XS.iloadN X2.here hx rfl (hb hby d6_11) rfl ?_
    show Steps p.tables e below (T2.setTop (mkF m 12 #[.val (.ref a1), .val (.int (1 : Int32)), .val (.ref a2), .val (.int (1 : Int32)), .val (.int (2 : Int32)), .val (.int (1 : Int32)), .val (.int c0)] [(.int (1 : Int32)), (.ref a1)])) _
    refine X2.caload hx (j := (1 : Int32)) (v := (.int c1)) (by rw [e2]; exact Ar5.1) (State.isArrayOf_alike hZ.alike Ar5.2.1) Ar5.2.2 hin5 hat5 (g := (mkF m 12 #[.val (.ref a1), .val (.int (1 : Int32)), .val (.ref a2), .val (.int (1 : Int32)), .val (.int (2 : Int32)), .val (.int (1 : Int32)), .val (.int c0)] [(.int (1 : Int32)), (.ref a1)])) rfl rfl (hb hby d6_12) _ ?_
    show Steps p.tables e below (T2.setTop (mkF m 13 #[.val (.ref a1), .val (.int (1 : Int32)), .val (.ref a2), .val (.int (1 : Int32)), .val (.int (2 : Int32)), .val (.int (1 : Int32)), .val (.int c0)] [(.int c1)])) _
    refine XS.istore X2.here hx rfl (hb hby d6_13) rfl (l' := #[.val (.ref a1), .val (.int (1 : Int32)), .val (.ref a2), .val (.int (1 : Int32)), .val (.int (2 : Int32)), .val (.int (1 : Int32)), .val (.int c1)]) rfl ?_
    show Steps p.tables e below (T2.setTop (mkF m 15 #[.val (.ref a1), .val (.int (1 : Int32)), .val (.ref a2), .val (.int (1 : Int32)), .val (.int (2 : Int32)), .val (.int (1 : Int32)), .val (.int c1)] [])) _
    refine XS.iload X2.here hx rfl (hb hby d6_15) rfl ?_
    show Steps p.tables e below (T2.setTop (mkF m 17 #[.val (.ref a1), .val (.int (1 : Int32)), .val (.ref a2), .val (.int (1 : Int32)), .val (.int (2 : Int32)), .val (.int (1 : Int32)), .val (.int c1)] [(.int c1)])) _
    refine XS.sipush X2.here hx rfl (hb hby d6_17) ?_
    show Steps p.tables e below (T2.setTop (mkF m 20 #[.val (.ref a1), .val (.int (1 : Int32)), .val (.ref a2), .val (.int (1 : Int32)), .val (.int (2 : Int32)), .val (.int (1 : Int32)), .val (.int c1)] [(.int (255 : Int32)), (.int c1)])) _
    refine XS.icmpYes X2.here hx rfl (pc0 := 20) (pc' := 26) rfl (hb hby d6_20) rfl (flt hk1).2.2.2 (by decide) (by decide) ?_
    show Steps p.tables e below (T2.setTop (mkF m 26 #[.val (.ref a1), .val (.int (1 : Int32)), .val (.ref a2), .val (.int (1 : Int32)), .val (.int (2 : Int32)), .val (.int (1 : Int32)), .val (.int c1)] [])) _
    refine XS.aloadN X2.here hx rfl (hb hby d6_26) rfl rfl ?_
    show Steps p.tables e below (T2.setTop (mkF m 27 #[.val (.ref a1), .val (.int (1 : Int32)), .val (.ref a2), .val (.int (1 : Int32)), .val (.int (2 : Int32)), .val (.int (1 : Int32)), .val (.int c1)] [(.ref a2)])) _
    refine XS.iloadN X2.here hx rfl (hb hby d6_27) rfl ?_
    show Steps p.tables e below (T2.setTop (mkF m 28 #[.val (.ref a1), .val (.int (1 : Int32)), .val (.ref a2), .val (.int (1 : Int32)), .val (.int (2 : Int32)), .val (.int (1 : Int32)), .val (.int c1)] [(.int (1 : Int32)), (.ref a2)])) _
    refine XS.iload X2.here hx rfl (hb hby d6_28) rfl ?_
    show Steps p.tables e below (T2.setTop (mkF m 30 #[.val (.ref a1), .val (.int (1 : Int32)), .val (.ref a2), .val (.int (1 : Int32)), .val (.int (2 : Int32)), .val (.int (1 : Int32)), .val (.int c1)] [(.int c1), (.int (1 : Int32)), (.ref a2)])) _
    refine XS.i2b X2.here hx rfl (hb hby d6_30) rfl ?_
    show Steps p.tables e below (T2.setTop (mkF m 31 #[.val (.ref a1), .val (.int (1 : Int32)), .val (.ref a2), .val (.int (1 : Int32)), .val (.int (2 : Int32)), .val (.int (1 : Int32)), .val (.int c1)] [(.int (c1.toInt8.toInt32)), (.int (1 : Int32)), (.ref a2)])) _
    refine st6 _ ?_
    show Steps p.tables e below (T6.setTop (mkF m 32 #[.val (.ref a1), .val (.int (1 : Int32)), .val (.ref a2), .val (.int (1 : Int32)), .val (.int (2 : Int32)), .val (.int (1 : Int32)), .val (.int c1)] [])) _
    refine XS.iinc X6.here hx rfl (hb hby d6_32) rfl (l' := #[.val (.ref a1), .val (.int (2 : Int32)), .val (.ref a2), .val (.int (1 : Int32)), .val (.int (2 : Int32)), .val (.int (1 : Int32)), .val (.int c1)]) rfl ?_
    show Steps p.tables e below (T6.setTop (mkF m 35 #[.val (.ref a1), .val (.int (2 : Int32)), .val (.ref a2), .val (.int (1 : Int32)), .val (.int (2 : Int32)), .val (.int (1 : Int32)), .val (.int c1)] [])) _
    refine XS.iinc X6.here hx rfl (hb hby d6_35) rfl (l' := #[.val (.ref a1), .val (.int (2 : Int32)), .val (.ref a2), .val (.int (2 : Int32)), .val (.int (2 : Int32)), .val (.int (1 : Int32)), .val (.int c1)]) rfl ?_
    show Steps p.tables e below (T6.setTop (mkF m 38 #[.val (.ref a1), .val (.int (2 : Int32)), .val (.ref a2), .val (.int (2 : Int32)), .val (.int (2 : Int32)), .val (.int (1 : Int32)), .val (.int c1)] [])) _
    refine XS.iinc X6.here hx rfl (hb hby d6_38) rfl (l' := #[.val (.ref a1), .val (.int (2 : Int32)), .val (.ref a2), .val (.int (2 : Int32)), .val (.int (2 : Int32)), .val (.int (2 : Int32)), .val (.int c1)]) rfl ?_
    show Steps p.tables e below (T6.setTop (mkF m 41 #[.val (.ref a1), .val (.int (2 : Int32)), .val (.ref a2), .val (.int (2 : Int32)), .val (.int (2 : Int32)), .val (.int (2 : Int32)), .val (.int c1)] [])) _
    refine XS.goto X6.here hx rfl (pc0 := 41) (pc' := 3) rfl (hb hby d6_41) (by decide) (by decide) ?_
    show Steps p.tables e below (T6.setTop (mkF m 3 #[.val (.ref a1), .val (.int (2 : Int32)), .val (.ref a2), .val (.int (2 : Int32)), .val (.int (2 : Int32)), .val (.int (2 : Int32)), .val (.int c1)] [])) _
    refine XS.iload X6.here hx rfl (hb hby d6_3) rfl ?_
    show Steps p.tables e below (T6.setTop (mkF m 5 #[.val (.ref a1), .val (.int (2 : Int32)), .val (.ref a2), .val (.int (2 : Int32)), .val (.int (2 : Int32)), .val (.int (2 : Int32)), .val (.int c1)] [(.int (2 : Int32))])) _
    refine XS.iload X6.here hx rfl (hb hby d6_5) rfl ?_
    show Steps p.tables e below (T6.setTop (mkF m 7 #[.val (.ref a1), .val (.int (2 : Int32)), .val (.ref a2), .val (.int (2 : Int32)), .val (.int (2 : Int32)), .val (.int (2 : Int32)), .val (.int c1)] [(.int (2 : Int32)), (.int (2 : Int32))])) _
    refine XS.icmpYes X6.here hx rfl (pc0 := 7) (pc' := 44) rfl (hb hby d6_7) rfl (by decide) (by decide) (by decide) ?_
    show Steps p.tables e below (T6.setTop (mkF m 44 #[.val (.ref a1), .val (.int (2 : Int32)), .val (.ref a2), .val (.int (2 : Int32)), .val (.int (2 : Int32)), .val (.int (2 : Int32)), .val (.int c1)] [])) _
    refine XS.iload X6.here hx rfl (hb hby d6_44) rfl ?_
    show Steps p.tables e below (T6.setTop (mkF m 46 #[.val (.ref a1), .val (.int (2 : Int32)), .val (.ref a2), .val (.int (2 : Int32)), .val (.int (2 : Int32)), .val (.int (2 : Int32)), .val (.int c1)] [(.int (2 : Int32))])) _
    exact retOut X6 hx Bd.returns rfl (Or.inl ⟨rfl, Or.inl rfl, _, rfl⟩) (hb hby d6_46) hr
  · show Qcp2l Z a1 kc a2 kk c0 c1 h0 n0 _ T6.heap _
    rw [e6]
    exact ⟨N6, K7, V6, rfl⟩
theorem ef_cp2u (m : MethodId) (a1 : Addr) (a2 : Addr) : entryFrame m #[(.ref a1), (.int (0 : Int32)), (.ref a2), (.int (0 : Int32)), (.int (2 : Int32))] 7 = mkF m 0 #[.val (.ref a1), .val (.int (0 : Int32)), .val (.ref a2), .val (.int (0 : Int32)), .val (.int (2 : Int32)), .unset, .unset] [] := by first | (simp [entryFrame, mkF, argsToLocals, Value.category]; done) | rfl
def Qcp2u (Z : State) (a1 : Addr) (kc : ClassId) (a2 : Addr) (kk : ClassId) (c0 : Int32) (c1 : Int32) (h0 : Heap) (n0 : Nat) (v : Option Value) (h : Heap) (L : List Loc) : Prop := Fr n0 L ∧ h = h0 ∧ (v = some (.int (0 : Int32)))
set_option maxRecDepth 65536 in
set_option maxHeartbeats 40000000 in
theorem rmCp2u (l : Launch) (Z : State) (a0 : Array Value) (hw : ∀ d ∈ tables_1, d.before a0 Z = true) (ws : List Jvm.Cond) (a1 : Addr) (kc : ClassId) (a2 : Addr) (kk : ClassId) (c0 : Int32) (c1 : Int32) (h0 : Heap) (n0 : Nat) (Z0 : n0 ≤ h0.size) (hVc : Arv Z h0 a1 kc .char (2 : Int32) [(.int c0), (.int c1)] (.int (0 : Int32))) (hV : Arv Z h0 a2 kk .byte (2 : Int32) [(.int (0 : Int32)), (.int (0 : Int32))] (.int (0 : Int32))) (hG2 : n0 ≤ a2) (hne : a1 ≠ a2) (hk0 : (255 : Int32) < c0) :
    MetFree l (⟨"java/lang/StringUTF16", "compress", "([CI[BII)I"⟩ : MethodName) (head1 (Jvm.Cond.code (⟨"java/lang/StringUTF16", "compress", "([CI[BII)I"⟩ : MethodName) jdk_52_method_21_code 7 (some .int) :: ws) ({ frames := 0, cells := 0, slots := 0, locals := 0 } : Room)) (fun a U => a = #[(.ref a1), (.int (0 : Int32)), (.ref a2), (.int (0 : Int32)), (.int (2 : Int32))] ∧ Z.Warmed39 U.vm ∧ U.heap = h0) (fun _ _ _ _ _ => True) (fun _ U o U' => ∃ v L, o = .returned v ∧ Qcp2u Z a1 kc a2 kk c0 c1 h0 n0 v U'.heap L ∧ FrameEnd U o U' L ({ frames := 0, cells := 0, slots := 0, locals := 0 } : Room).cells ({ frames := 0, cells := 0, slots := 0, locals := 0 } : Room).slots) := by
  refine MetFree.of_bodySF (plainFor_of_name own_pn_6) hisR ?_
  intro p e s m args below meth c s₁ Bd hml0 hP hK
  obtain ⟨rfl, hZ, hh⟩ := hP
  have hx := Bd.exec
  have hby := Bd.bytes
  have hml : c.maxLocals = 7 := hml0
  have hown : s.vm.findClass "java/lang/StringUTF16" = some m.cls := findClass_of_methodNamed Bd.named
  have hnm := (name_of_methodNamed Bd.named Bd.method).1
  have X0 : Stand p l e ({ frames := 0, cells := 0, slots := 0, locals := 0 } : Room) s m #[(.ref a1), (.int (0 : Int32)), (.ref a2), (.int (0 : Int32)), (.int (2 : Int32))] below meth c s₁ [] 0 0 := Stand.of_body Bd
  have e0 : s₁.heap = h0 := by rw [← hh, Bd.state]; rfl
  have N0 := Fr.nil n0
  have pre0 : ∀ t, Steps p.tables e below (s₁.setTop (mkF m 0 #[.val (.ref a1), .val (.int (0 : Int32)), .val (.ref a2), .val (.int (0 : Int32)), .val (.int (2 : Int32)), .unset, .unset] [])) t → Steps p.tables e below (s₁.setTop (entryFrame m #[(.ref a1), (.int (0 : Int32)), (.ref a2), (.int (0 : Int32)), (.int (2 : Int32))] 7)) t := fun t k => castTop (ef_cp2u m a1 a2) k
  obtain ⟨cl1, Ar1, q1, S1, M1, H1, G1⟩ := id hVc
  have hin1 : ¬ ((0 : Int32) < 0 ∨ cl1.slots.size ≤ ((0 : Int32)).toNatClampNeg) := inb_of S1 ⟨by decide, by decide⟩
  have hat1 : cl1.slots[((0 : Int32)).toNatClampNeg]? = some (.int c0) := H1.at hin1 rfl
  obtain ⟨fs, hr, hrun, hended, hW, hsame⟩ := X0.leave (v := (some (.int (0 : Int32)))) (fun h => by rw [Bd.returns] at h; cases h)
  refine ⟨_, _, pre0 _ ?_, hrun, hended, _, _, rfl, ?_, ⟨_, rfl⟩, hW, hsame.mono (by decide) (by decide)⟩
  · show Steps p.tables e below (s₁.setTop (mkF m 0 #[.val (.ref a1), .val (.int (0 : Int32)), .val (.ref a2), .val (.int (0 : Int32)), .val (.int (2 : Int32)), .unset, .unset] [])) _
    refine XS.iconst X0.here hx rfl (hb hby d6_0) ?_
    show Steps p.tables e below (s₁.setTop (mkF m 1 #[.val (.ref a1), .val (.int (0 : Int32)), .val (.ref a2), .val (.int (0 : Int32)), .val (.int (2 : Int32)), .unset, .unset] [(.int (0 : Int32))])) _
    refine XS.istore X0.here hx rfl (hb hby d6_1) rfl (l' := #[.val (.ref a1), .val (.int (0 : Int32)), .val (.ref a2), .val (.int (0 : Int32)), .val (.int (2 : Int32)), .val (.int (0 : Int32)), .unset]) rfl ?_
    show Steps p.tables e below (s₁.setTop (mkF m 3 #[.val (.ref a1), .val (.int (0 : Int32)), .val (.ref a2), .val (.int (0 : Int32)), .val (.int (2 : Int32)), .val (.int (0 : Int32)), .unset] [])) _
    refine XS.iload X0.here hx rfl (hb hby d6_3) rfl ?_
    show Steps p.tables e below (s₁.setTop (mkF m 5 #[.val (.ref a1), .val (.int (0 : Int32)), .val (.ref a2), .val (.int (0 : Int32)), .val (.int (2 : Int32)), .val (.int (0 : Int32)), .unset] [(.int (0 : Int32))])) _
    refine XS.iload X0.here hx rfl (hb hby d6_5) rfl ?_
    show Steps p.tables e below (s₁.setTop (mkF m 7 #[.val (.ref a1), .val (.int (0 : Int32)), .val (.ref a2), .val (.int (0 : Int32)), .val (.int (2 : Int32)), .val (.int (0 : Int32)), .unset] [(.int (2 : Int32)), (.int (0 : Int32))])) _
    refine XS.icmpNo X0.here hx rfl (hb hby d6_7) rfl (by decide) ?_
    show Steps p.tables e below (s₁.setTop (mkF m 10 #[.val (.ref a1), .val (.int (0 : Int32)), .val (.ref a2), .val (.int (0 : Int32)), .val (.int (2 : Int32)), .val (.int (0 : Int32)), .unset] [])) _
    refine XS.aloadN X0.here hx rfl (hb hby d6_10) rfl rfl ?_
    show Steps p.tables e below (s₁.setTop (mkF m 11 #[.val (.ref a1), .val (.int (0 : Int32)), .val (.ref a2), .val (.int (0 : Int32)), .val (.int (2 : Int32)), .val (.int (0 : Int32)), .unset] [(.ref a1)])) _
    refine XS.iloadN X0.here hx rfl (hb hby d6_11) rfl ?_
    show Steps p.tables e below (s₁.setTop (mkF m 12 #[.val (.ref a1), .val (.int (0 : Int32)), .val (.ref a2), .val (.int (0 : Int32)), .val (.int (2 : Int32)), .val (.int (0 : Int32)), .unset] [(.int (0 : Int32)), (.ref a1)])) _
    refine X0.caload hx (j := (0 : Int32)) (v := (.int c0)) (by rw [e0]; exact Ar1.1) (State.isArrayOf_alike hZ.alike Ar1.2.1) Ar1.2.2 hin1 hat1 (g := (mkF m 12 #[.val (.ref a1), .val (.int (0 : Int32)), .val (.ref a2), .val (.int (0 : Int32)), .val (.int (2 : Int32)), .val (.int (0 : Int32)), .unset] [(.int (0 : Int32)), (.ref a1)])) rfl rfl (hb hby d6_12) _ ?_
    show Steps p.tables e below (s₁.setTop (mkF m 13 #[.val (.ref a1), .val (.int (0 : Int32)), .val (.ref a2), .val (.int (0 : Int32)), .val (.int (2 : Int32)), .val (.int (0 : Int32)), .unset] [(.int c0)])) _
    refine XS.istore X0.here hx rfl (hb hby d6_13) rfl (l' := #[.val (.ref a1), .val (.int (0 : Int32)), .val (.ref a2), .val (.int (0 : Int32)), .val (.int (2 : Int32)), .val (.int (0 : Int32)), .val (.int c0)]) rfl ?_
    show Steps p.tables e below (s₁.setTop (mkF m 15 #[.val (.ref a1), .val (.int (0 : Int32)), .val (.ref a2), .val (.int (0 : Int32)), .val (.int (2 : Int32)), .val (.int (0 : Int32)), .val (.int c0)] [])) _
    refine XS.iload X0.here hx rfl (hb hby d6_15) rfl ?_
    show Steps p.tables e below (s₁.setTop (mkF m 17 #[.val (.ref a1), .val (.int (0 : Int32)), .val (.ref a2), .val (.int (0 : Int32)), .val (.int (2 : Int32)), .val (.int (0 : Int32)), .val (.int c0)] [(.int c0)])) _
    refine XS.sipush X0.here hx rfl (hb hby d6_17) ?_
    show Steps p.tables e below (s₁.setTop (mkF m 20 #[.val (.ref a1), .val (.int (0 : Int32)), .val (.ref a2), .val (.int (0 : Int32)), .val (.int (2 : Int32)), .val (.int (0 : Int32)), .val (.int c0)] [(.int (255 : Int32)), (.int c0)])) _
    refine XS.icmpNo X0.here hx rfl (hb hby d6_20) rfl (tlt hk0).2.2.2 ?_
    show Steps p.tables e below (s₁.setTop (mkF m 23 #[.val (.ref a1), .val (.int (0 : Int32)), .val (.ref a2), .val (.int (0 : Int32)), .val (.int (2 : Int32)), .val (.int (0 : Int32)), .val (.int c0)] [])) _
    refine XS.iload X0.here hx rfl (hb hby d6_23) rfl ?_
    show Steps p.tables e below (s₁.setTop (mkF m 25 #[.val (.ref a1), .val (.int (0 : Int32)), .val (.ref a2), .val (.int (0 : Int32)), .val (.int (2 : Int32)), .val (.int (0 : Int32)), .val (.int c0)] [(.int (0 : Int32))])) _
    exact retOut X0 hx Bd.returns rfl (Or.inl ⟨rfl, Or.inl rfl, _, rfl⟩) (hb hby d6_25) hr
  · show Qcp2u Z a1 kc a2 kk c0 c1 h0 n0 _ s₁.heap _
    rw [e0]
    exact ⟨N0, rfl, rfl⟩
theorem ef_cp2v (m : MethodId) (a1 : Addr) (a2 : Addr) : entryFrame m #[(.ref a1), (.int (0 : Int32)), (.ref a2), (.int (0 : Int32)), (.int (2 : Int32))] 7 = mkF m 0 #[.val (.ref a1), .val (.int (0 : Int32)), .val (.ref a2), .val (.int (0 : Int32)), .val (.int (2 : Int32)), .unset, .unset] [] := by first | (simp [entryFrame, mkF, argsToLocals, Value.category]; done) | rfl
def Qcp2v (Z : State) (a1 : Addr) (kc : ClassId) (a2 : Addr) (kk : ClassId) (c0 : Int32) (c1 : Int32) (h0 : Heap) (n0 : Nat) (v : Option Value) (h : Heap) (L : List Loc) : Prop := Fr n0 L ∧ Keep h0 h [a2] ∧ Arv Z h a2 kk .byte (2 : Int32) [(.int ((c0.toInt8.toInt32).toInt8.toInt32)), (.int (0 : Int32))] (.int (0 : Int32)) ∧ (v = some (.int (1 : Int32)))
set_option maxRecDepth 65536 in
set_option maxHeartbeats 40000000 in
theorem rmCp2v (l : Launch) (Z : State) (a0 : Array Value) (hw : ∀ d ∈ tables_1, d.before a0 Z = true) (ws : List Jvm.Cond) (a1 : Addr) (kc : ClassId) (a2 : Addr) (kk : ClassId) (c0 : Int32) (c1 : Int32) (h0 : Heap) (n0 : Nat) (Z0 : n0 ≤ h0.size) (hVc : Arv Z h0 a1 kc .char (2 : Int32) [(.int c0), (.int c1)] (.int (0 : Int32))) (hV : Arv Z h0 a2 kk .byte (2 : Int32) [(.int (0 : Int32)), (.int (0 : Int32))] (.int (0 : Int32))) (hG2 : n0 ≤ a2) (hne : a1 ≠ a2) (hk0 : ¬ ((255 : Int32) < c0)) (hk1 : (255 : Int32) < c1) :
    MetFree l (⟨"java/lang/StringUTF16", "compress", "([CI[BII)I"⟩ : MethodName) (head1 (Jvm.Cond.code (⟨"java/lang/StringUTF16", "compress", "([CI[BII)I"⟩ : MethodName) jdk_52_method_21_code 7 (some .int) :: ws) ({ frames := 0, cells := 0, slots := 0, locals := 0 } : Room)) (fun a U => a = #[(.ref a1), (.int (0 : Int32)), (.ref a2), (.int (0 : Int32)), (.int (2 : Int32))] ∧ Z.Warmed39 U.vm ∧ U.heap = h0) (fun _ _ _ _ _ => True) (fun _ U o U' => ∃ v L, o = .returned v ∧ Qcp2v Z a1 kc a2 kk c0 c1 h0 n0 v U'.heap L ∧ FrameEnd U o U' L ({ frames := 0, cells := 0, slots := 0, locals := 0 } : Room).cells ({ frames := 0, cells := 0, slots := 0, locals := 0 } : Room).slots) := by
  refine MetFree.of_bodySF (plainFor_of_name own_pn_6) hisR ?_
  intro p e s m args below meth c s₁ Bd hml0 hP hK
  obtain ⟨rfl, hZ, hh⟩ := hP
  have hx := Bd.exec
  have hby := Bd.bytes
  have hml : c.maxLocals = 7 := hml0
  have hown : s.vm.findClass "java/lang/StringUTF16" = some m.cls := findClass_of_methodNamed Bd.named
  have hnm := (name_of_methodNamed Bd.named Bd.method).1
  have X0 : Stand p l e ({ frames := 0, cells := 0, slots := 0, locals := 0 } : Room) s m #[(.ref a1), (.int (0 : Int32)), (.ref a2), (.int (0 : Int32)), (.int (2 : Int32))] below meth c s₁ [] 0 0 := Stand.of_body Bd
  have e0 : s₁.heap = h0 := by rw [← hh, Bd.state]; rfl
  have N0 := Fr.nil n0
  have pre0 : ∀ t, Steps p.tables e below (s₁.setTop (mkF m 0 #[.val (.ref a1), .val (.int (0 : Int32)), .val (.ref a2), .val (.int (0 : Int32)), .val (.int (2 : Int32)), .unset, .unset] [])) t → Steps p.tables e below (s₁.setTop (entryFrame m #[(.ref a1), (.int (0 : Int32)), (.ref a2), (.int (0 : Int32)), (.int (2 : Int32))] 7)) t := fun t k => castTop (ef_cp2v m a1 a2) k
  obtain ⟨cl1, Ar1, q1, S1, M1, H1, G1⟩ := id hVc
  have hin1 : ¬ ((0 : Int32) < 0 ∨ cl1.slots.size ≤ ((0 : Int32)).toNatClampNeg) := inb_of S1 ⟨by decide, by decide⟩
  have hat1 : cl1.slots[((0 : Int32)).toNatClampNeg]? = some (.int c0) := H1.at hin1 rfl
  obtain ⟨cl2, Ar2, q2, S2, M2, H2, G2⟩ := id hV
  have hin2 : ¬ ((0 : Int32) < 0 ∨ cl2.slots.size ≤ ((0 : Int32)).toNatClampNeg) := inb_of S2 ⟨by decide, by decide⟩
  obtain ⟨T2, h2, X2, e2, W2, st2⟩ := stB X0 hx hZ e0 Ar2 (j := (0 : Int32)) hin2 (g := (mkF m 31 #[.val (.ref a1), .val (.int (0 : Int32)), .val (.ref a2), .val (.int (0 : Int32)), .val (.int (2 : Int32)), .val (.int (0 : Int32)), .val (.int c0)] [(.int (c0.toInt8.toInt32)), (.int (0 : Int32)), (.ref a2)])) rfl rfl (hb hby d6_31)
  have N2 := Fr.snoc X2 N0 hG2
  have K3 : Keep h0 h2 [a2] := (Keep.refl h0 [a2]).wr W2 (Or.inl (List.mem_of_getElem? (i := 0) rfl))
  have V2 : Arv Z h2 a2 kk .byte (2 : Int32) [(.int ((c0.toInt8.toInt32).toInt8.toInt32)), (.int (0 : Int32))] (.int (0 : Int32)) := Arv.set Ar2 q2 S2 M2 H2 G2 (fits_nar_byte _) W2 0 rfl (Nat.le_of_ble_eq_true rfl)
  have f4 : Arv Z h2 a1 kc .char (2 : Int32) [(.int c0), (.int c1)] (.int (0 : Int32)) := (hVc.other W2 hne)
  obtain ⟨cl5, Ar5, q5, S5, M5, H5, G5⟩ := id f4
  have hin5 : ¬ ((1 : Int32) < 0 ∨ cl5.slots.size ≤ ((1 : Int32)).toNatClampNeg) := inb_of S5 ⟨by decide, by decide⟩
  have hat5 : cl5.slots[((1 : Int32)).toNatClampNeg]? = some (.int c1) := H5.at hin5 rfl
  obtain ⟨fs, hr, hrun, hended, hW, hsame⟩ := X2.leave (v := (some (.int (1 : Int32)))) (fun h => by rw [Bd.returns] at h; cases h)
  refine ⟨_, _, pre0 _ ?_, hrun, hended, _, _, rfl, ?_, ⟨_, rfl⟩, hW, hsame.mono (by decide) (by decide)⟩
  · show Steps p.tables e below (s₁.setTop (mkF m 0 #[.val (.ref a1), .val (.int (0 : Int32)), .val (.ref a2), .val (.int (0 : Int32)), .val (.int (2 : Int32)), .unset, .unset] [])) _
    refine XS.iconst X0.here hx rfl (hb hby d6_0) ?_
    show Steps p.tables e below (s₁.setTop (mkF m 1 #[.val (.ref a1), .val (.int (0 : Int32)), .val (.ref a2), .val (.int (0 : Int32)), .val (.int (2 : Int32)), .unset, .unset] [(.int (0 : Int32))])) _
    refine XS.istore X0.here hx rfl (hb hby d6_1) rfl (l' := #[.val (.ref a1), .val (.int (0 : Int32)), .val (.ref a2), .val (.int (0 : Int32)), .val (.int (2 : Int32)), .val (.int (0 : Int32)), .unset]) rfl ?_
    show Steps p.tables e below (s₁.setTop (mkF m 3 #[.val (.ref a1), .val (.int (0 : Int32)), .val (.ref a2), .val (.int (0 : Int32)), .val (.int (2 : Int32)), .val (.int (0 : Int32)), .unset] [])) _
    refine XS.iload X0.here hx rfl (hb hby d6_3) rfl ?_
    show Steps p.tables e below (s₁.setTop (mkF m 5 #[.val (.ref a1), .val (.int (0 : Int32)), .val (.ref a2), .val (.int (0 : Int32)), .val (.int (2 : Int32)), .val (.int (0 : Int32)), .unset] [(.int (0 : Int32))])) _
    refine XS.iload X0.here hx rfl (hb hby d6_5) rfl ?_
    show Steps p.tables e below (s₁.setTop (mkF m 7 #[.val (.ref a1), .val (.int (0 : Int32)), .val (.ref a2), .val (.int (0 : Int32)), .val (.int (2 : Int32)), .val (.int (0 : Int32)), .unset] [(.int (2 : Int32)), (.int (0 : Int32))])) _
    refine XS.icmpNo X0.here hx rfl (hb hby d6_7) rfl (by decide) ?_
    show Steps p.tables e below (s₁.setTop (mkF m 10 #[.val (.ref a1), .val (.int (0 : Int32)), .val (.ref a2), .val (.int (0 : Int32)), .val (.int (2 : Int32)), .val (.int (0 : Int32)), .unset] [])) _
    refine XS.aloadN X0.here hx rfl (hb hby d6_10) rfl rfl ?_
    show Steps p.tables e below (s₁.setTop (mkF m 11 #[.val (.ref a1), .val (.int (0 : Int32)), .val (.ref a2), .val (.int (0 : Int32)), .val (.int (2 : Int32)), .val (.int (0 : Int32)), .unset] [(.ref a1)])) _
    refine XS.iloadN X0.here hx rfl (hb hby d6_11) rfl ?_
    show Steps p.tables e below (s₁.setTop (mkF m 12 #[.val (.ref a1), .val (.int (0 : Int32)), .val (.ref a2), .val (.int (0 : Int32)), .val (.int (2 : Int32)), .val (.int (0 : Int32)), .unset] [(.int (0 : Int32)), (.ref a1)])) _
    refine X0.caload hx (j := (0 : Int32)) (v := (.int c0)) (by rw [e0]; exact Ar1.1) (State.isArrayOf_alike hZ.alike Ar1.2.1) Ar1.2.2 hin1 hat1 (g := (mkF m 12 #[.val (.ref a1), .val (.int (0 : Int32)), .val (.ref a2), .val (.int (0 : Int32)), .val (.int (2 : Int32)), .val (.int (0 : Int32)), .unset] [(.int (0 : Int32)), (.ref a1)])) rfl rfl (hb hby d6_12) _ ?_
    show Steps p.tables e below (s₁.setTop (mkF m 13 #[.val (.ref a1), .val (.int (0 : Int32)), .val (.ref a2), .val (.int (0 : Int32)), .val (.int (2 : Int32)), .val (.int (0 : Int32)), .unset] [(.int c0)])) _
    refine XS.istore X0.here hx rfl (hb hby d6_13) rfl (l' := #[.val (.ref a1), .val (.int (0 : Int32)), .val (.ref a2), .val (.int (0 : Int32)), .val (.int (2 : Int32)), .val (.int (0 : Int32)), .val (.int c0)]) rfl ?_
    show Steps p.tables e below (s₁.setTop (mkF m 15 #[.val (.ref a1), .val (.int (0 : Int32)), .val (.ref a2), .val (.int (0 : Int32)), .val (.int (2 : Int32)), .val (.int (0 : Int32)), .val (.int c0)] [])) _
    refine XS.iload X0.here hx rfl (hb hby d6_15) rfl ?_
    show Steps p.tables e below (s₁.setTop (mkF m 17 #[.val (.ref a1), .val (.int (0 : Int32)), .val (.ref a2), .val (.int (0 : Int32)), .val (.int (2 : Int32)), .val (.int (0 : Int32)), .val (.int c0)] [(.int c0)])) _
    refine XS.sipush X0.here hx rfl (hb hby d6_17) ?_
    show Steps p.tables e below (s₁.setTop (mkF m 20 #[.val (.ref a1), .val (.int (0 : Int32)), .val (.ref a2), .val (.int (0 : Int32)), .val (.int (2 : Int32)), .val (.int (0 : Int32)), .val (.int c0)] [(.int (255 : Int32)), (.int c0)])) _
    refine XS.icmpYes X0.here hx rfl (pc0 := 20) (pc' := 26) rfl (hb hby d6_20) rfl (flt hk0).2.2.2 (by decide) (by decide) ?_
    show Steps p.tables e below (s₁.setTop (mkF m 26 #[.val (.ref a1), .val (.int (0 : Int32)), .val (.ref a2), .val (.int (0 : Int32)), .val (.int (2 : Int32)), .val (.int (0 : Int32)), .val (.int c0)] [])) _
    refine XS.aloadN X0.here hx rfl (hb hby d6_26) rfl rfl ?_
    show Steps p.tables e below (s₁.setTop (mkF m 27 #[.val (.ref a1), .val (.int (0 : Int32)), .val (.ref a2), .val (.int (0 : Int32)), .val (.int (2 : Int32)), .val (.int (0 : Int32)), .val (.int c0)] [(.ref a2)])) _
    refine XS.iloadN X0.here hx rfl (hb hby d6_27) rfl ?_
    show Steps p.tables e below (s₁.setTop (mkF m 28 #[.val (.ref a1), .val (.int (0 : Int32)), .val (.ref a2), .val (.int (0 : Int32)), .val (.int (2 : Int32)), .val (.int (0 : Int32)), .val (.int c0)] [(.int (0 : Int32)), (.ref a2)])) _
    refine XS.iload X0.here hx rfl (hb hby d6_28) rfl ?_
    show Steps p.tables e below (s₁.setTop (mkF m 30 #[.val (.ref a1), .val (.int (0 : Int32)), .val (.ref a2), .val (.int (0 : Int32)), .val (.int (2 : Int32)), .val (.int (0 : Int32)), .val (.int c0)] [(.int c0), (.int (0 : Int32)), (.ref a2)])) _
    refine XS.i2b X0.here hx rfl (hb hby d6_30) rfl ?_
    show Steps p.tables e below (s₁.setTop (mkF m 31 #[.val (.ref a1), .val (.int (0 : Int32)), .val (.ref a2), .val (.int (0 : Int32)), .val (.int (2 : Int32)), .val (.int (0 : Int32)), .val (.int c0)] [(.int (c0.toInt8.toInt32)), (.int (0 : Int32)), (.ref a2)])) _
    refine st2 _ ?_
    show Steps p.tables e below (T2.setTop (mkF m 32 #[.val (.ref a1), .val (.int (0 : Int32)), .val (.ref a2), .val (.int (0 : Int32)), .val (.int (2 : Int32)), .val (.int (0 : Int32)), .val (.int c0)] [])) _
    refine XS.iinc X2.here hx rfl (hb hby d6_32) rfl (l' := #[.val (.ref a1), .val (.int (1 : Int32)), .val (.ref a2), .val (.int (0 : Int32)), .val (.int (2 : Int32)), .val (.int (0 : Int32)), .val (.int c0)]) rfl ?_
    show Steps p.tables e below (T2.setTop (mkF m 35 #[.val (.ref a1), .val (.int (1 : Int32)), .val (.ref a2), .val (.int (0 : Int32)), .val (.int (2 : Int32)), .val (.int (0 : Int32)), .val (.int c0)] [])) _
    refine XS.iinc X2.here hx rfl (hb hby d6_35) rfl (l' := #[.val (.ref a1), .val (.int (1 : Int32)), .val (.ref a2), .val (.int (1 : Int32)), .val (.int (2 : Int32)), .val (.int (0 : Int32)), .val (.int c0)]) rfl ?_
    show Steps p.tables e below (T2.setTop (mkF m 38 #[.val (.ref a1), .val (.int (1 : Int32)), .val (.ref a2), .val (.int (1 : Int32)), .val (.int (2 : Int32)), .val (.int (0 : Int32)), .val (.int c0)] [])) _
    refine XS.iinc X2.here hx rfl (hb hby d6_38) rfl (l' := #[.val (.ref a1), .val (.int (1 : Int32)), .val (.ref a2), .val (.int (1 : Int32)), .val (.int (2 : Int32)), .val (.int (1 : Int32)), .val (.int c0)]) rfl ?_
    show Steps p.tables e below (T2.setTop (mkF m 41 #[.val (.ref a1), .val (.int (1 : Int32)), .val (.ref a2), .val (.int (1 : Int32)), .val (.int (2 : Int32)), .val (.int (1 : Int32)), .val (.int c0)] [])) _
    refine XS.goto X2.here hx rfl (pc0 := 41) (pc' := 3) rfl (hb hby d6_41) (by decide) (by decide) ?_
    show Steps p.tables e below (T2.setTop (mkF m 3 #[.val (.ref a1), .val (.int (1 : Int32)), .val (.ref a2), .val (.int (1 : Int32)), .val (.int (2 : Int32)), .val (.int (1 : Int32)), .val (.int c0)] [])) _
    refine XS.iload X2.here hx rfl (hb hby d6_3) rfl ?_
    show Steps p.tables e below (T2.setTop (mkF m 5 #[.val (.ref a1), .val (.int (1 : Int32)), .val (.ref a2), .val (.int (1 : Int32)), .val (.int (2 : Int32)), .val (.int (1 : Int32)), .val (.int c0)] [(.int (1 : Int32))])) _
    refine XS.iload X2.here hx rfl (hb hby d6_5) rfl ?_
    show Steps p.tables e below (T2.setTop (mkF m 7 #[.val (.ref a1), .val (.int (1 : Int32)), .val (.ref a2), .val (.int (1 : Int32)), .val (.int (2 : Int32)), .val (.int (1 : Int32)), .val (.int c0)] [(.int (2 : Int32)), (.int (1 : Int32))])) _
    refine XS.icmpNo X2.here hx rfl (hb hby d6_7) rfl (by decide) ?_
    show Steps p.tables e below (T2.setTop (mkF m 10 #[.val (.ref a1), .val (.int (1 : Int32)), .val (.ref a2), .val (.int (1 : Int32)), .val (.int (2 : Int32)), .val (.int (1 : Int32)), .val (.int c0)] [])) _
    refine XS.aloadN X2.here hx rfl (hb hby d6_10) rfl rfl ?_
    show Steps p.tables e below (T2.setTop (mkF m 11 #[.val (.ref a1), .val (.int (1 : Int32)), .val (.ref a2), .val (.int (1 : Int32)), .val (.int (2 : Int32)), .val (.int (1 : Int32)), .val (.int c0)] [(.ref a1)])) _
    refine XS.iloadN X2.here hx rfl (hb hby d6_11) rfl ?_
    show Steps p.tables e below (T2.setTop (mkF m 12 #[.val (.ref a1), .val (.int (1 : Int32)), .val (.ref a2), .val (.int (1 : Int32)), .val (.int (2 : Int32)), .val (.int (1 : Int32)), .val (.int c0)] [(.int (1 : Int32)), (.ref a1)])) _
    refine X2.caload hx (j := (1 : Int32)) (v := (.int c1)) (by rw [e2]; exact Ar5.1) (State.isArrayOf_alike hZ.alike Ar5.2.1) Ar5.2.2 hin5 hat5 (g := (mkF m 12 #[.val (.ref a1), .val (.int (1 : Int32)), .val (.ref a2), .val (.int (1 : Int32)), .val (.int (2 : Int32)), .val (.int (1 : Int32)), .val (.int c0)] [(.int (1 : Int32)), (.ref a1)])) rfl rfl (hb hby d6_12) _ ?_
    show Steps p.tables e below (T2.setTop (mkF m 13 #[.val (.ref a1), .val (.int (1 : Int32)), .val (.ref a2), .val (.int (1 : Int32)), .val (.int (2 : Int32)), .val (.int (1 : Int32)), .val (.int c0)] [(.int c1)])) _
    refine XS.istore X2.here hx rfl (hb hby d6_13) rfl (l' := #[.val (.ref a1), .val (.int (1 : Int32)), .val (.ref a2), .val (.int (1 : Int32)), .val (.int (2 : Int32)), .val (.int (1 : Int32)), .val (.int c1)]) rfl ?_
    show Steps p.tables e below (T2.setTop (mkF m 15 #[.val (.ref a1), .val (.int (1 : Int32)), .val (.ref a2), .val (.int (1 : Int32)), .val (.int (2 : Int32)), .val (.int (1 : Int32)), .val (.int c1)] [])) _
    refine XS.iload X2.here hx rfl (hb hby d6_15) rfl ?_
    show Steps p.tables e below (T2.setTop (mkF m 17 #[.val (.ref a1), .val (.int (1 : Int32)), .val (.ref a2), .val (.int (1 : Int32)), .val (.int (2 : Int32)), .val (.int (1 : Int32)), .val (.int c1)] [(.int c1)])) _
    refine XS.sipush X2.here hx rfl (hb hby d6_17) ?_
    show Steps p.tables e below (T2.setTop (mkF m 20 #[.val (.ref a1), .val (.int (1 : Int32)), .val (.ref a2), .val (.int (1 : Int32)), .val (.int (2 : Int32)), .val (.int (1 : Int32)), .val (.int c1)] [(.int (255 : Int32)), (.int c1)])) _
    refine XS.icmpNo X2.here hx rfl (hb hby d6_20) rfl (tlt hk1).2.2.2 ?_
    show Steps p.tables e below (T2.setTop (mkF m 23 #[.val (.ref a1), .val (.int (1 : Int32)), .val (.ref a2), .val (.int (1 : Int32)), .val (.int (2 : Int32)), .val (.int (1 : Int32)), .val (.int c1)] [])) _
    refine XS.iload X2.here hx rfl (hb hby d6_23) rfl ?_
    show Steps p.tables e below (T2.setTop (mkF m 25 #[.val (.ref a1), .val (.int (1 : Int32)), .val (.ref a2), .val (.int (1 : Int32)), .val (.int (2 : Int32)), .val (.int (1 : Int32)), .val (.int c1)] [(.int (1 : Int32))])) _
    exact retOut X2 hx Bd.returns rfl (Or.inl ⟨rfl, Or.inl rfl, _, rfl⟩) (hb hby d6_25) hr
  · show Qcp2v Z a1 kc a2 kk c0 c1 h0 n0 _ T2.heap _
    rw [e2]
    exact ⟨N2, K3, V2, rfl⟩
theorem d5_0 : decode jdk_52_method_16_code 0 = .ok (.iload_n 2, 1) := by decide +kernel
theorem d5_1 : decode jdk_52_method_16_code 1 = .ok (.newarray .byte, 2) := by decide +kernel
theorem d5_3 : decode jdk_52_method_16_code 3 = .ok (.astore_n 3, 1) := by decide +kernel
theorem d5_4 : decode jdk_52_method_16_code 4 = .ok (.aload_n 0, 1) := by decide +kernel
theorem d5_5 : decode jdk_52_method_16_code 5 = .ok (.iload_n 1, 1) := by decide +kernel
theorem d5_6 : decode jdk_52_method_16_code 6 = .ok (.aload_n 3, 1) := by decide +kernel
theorem d5_7 : decode jdk_52_method_16_code 7 = .ok (.iconst 0, 1) := by decide +kernel
theorem d5_8 : decode jdk_52_method_16_code 8 = .ok (.iload_n 2, 1) := by decide +kernel
theorem d5_9 : decode jdk_52_method_16_code 9 = .ok (.invokestatic 115, 3) := by decide +kernel
theorem own_pd_9 : parseMethodDescriptor "([CI[BII)I" = some ⟨[(.array .char), .int, (.array .byte), .int, .int], some .int⟩ := by decide +kernel
theorem d5_12 : decode jdk_52_method_16_code 12 = .ok (.istore 4, 2) := by decide +kernel
theorem d5_14 : decode jdk_52_method_16_code 14 = .ok (.iload 4, 2) := by decide +kernel
theorem d5_16 : decode jdk_52_method_16_code 16 = .ok (.iload_n 2, 1) := by decide +kernel
theorem d5_17 : decode jdk_52_method_16_code 17 = .ok (.if_icmp .eq 40, 3) := by decide +kernel
theorem d5_57 : decode jdk_52_method_16_code 57 = .ok (.aload_n 3, 1) := by decide +kernel
theorem d5_58 : decode jdk_52_method_16_code 58 = .ok (.areturn, 1) := by decide +kernel
theorem ef_cm1l (m : MethodId) (a1 : Addr) : entryFrame m #[(.ref a1), (.int (0 : Int32)), (.int (1 : Int32))] 6 = mkF m 0 #[.val (.ref a1), .val (.int (0 : Int32)), .val (.int (1 : Int32)), .unset, .unset, .unset] [] := by first | (simp [entryFrame, mkF, argsToLocals, Value.category]; done) | rfl
def Qcm1l (Z : State) (a1 : Addr) (kc : ClassId) (c0 : Int32) (h0 : Heap) (n0 : Nat) (v : Option Value) (h : Heap) (L : List Loc) : Prop := ∃ (bb : Addr) (k0 : ClassId), Fr n0 L ∧ Keep h0 h [] ∧ h0.size ≤ bb ∧ Arv Z h bb k0 .byte (1 : Int32) [(.int ((c0.toInt8.toInt32).toInt8.toInt32))] (.int (0 : Int32)) ∧ (v = some (.ref bb))
set_option maxRecDepth 65536 in
set_option maxHeartbeats 40000000 in
theorem rmCm1l (l : Launch) (Z : State) (a0 : Array Value) (hw : ∀ d ∈ tables_1, d.before a0 Z = true) (ws : List Jvm.Cond) (a1 : Addr) (kc : ClassId) (c0 : Int32) (h0 : Heap) (n0 : Nat) (Z0 : n0 ≤ h0.size) (hVc : Arv Z h0 a1 kc .char (1 : Int32) [(.int c0)] (.int (0 : Int32))) (hk0 : ¬ ((255 : Int32) < c0)) (hH0 : own_H c0) :
    MetFree l (⟨"java/lang/StringUTF16", "compress", "([CII)[B"⟩ : MethodName) (head1 (Jvm.Cond.code (⟨"java/lang/StringUTF16", "compress", "([CII)[B"⟩ : MethodName) jdk_52_method_16_code 6 (some (.array .byte)) :: ws) ({ frames := 1, cells := 1, slots := 1, locals := 18 } : Room)) (fun a U => a = #[(.ref a1), (.int (0 : Int32)), (.int (1 : Int32))] ∧ Z.Warmed39 U.vm ∧ U.heap = h0) (fun _ _ _ _ _ => True) (fun _ U o U' => ∃ v L, o = .returned v ∧ Qcm1l Z a1 kc c0 h0 n0 v U'.heap L ∧ FrameEnd U o U' L ({ frames := 1, cells := 1, slots := 1, locals := 18 } : Room).cells ({ frames := 1, cells := 1, slots := 1, locals := 18 } : Room).slots) := by
  refine MetFree.of_bodySF (plainFor_of_name own_pn_6) hisR ?_
  intro p e s m args below meth c s₁ Bd hml0 hP hK
  obtain ⟨rfl, hZ, hh⟩ := hP
  have hx := Bd.exec
  have hby := Bd.bytes
  have hml : c.maxLocals = 6 := hml0
  have hown : s.vm.findClass "java/lang/StringUTF16" = some m.cls := findClass_of_methodNamed Bd.named
  have hnm := (name_of_methodNamed Bd.named Bd.method).1
  have X0 : Stand p l e ({ frames := 1, cells := 1, slots := 1, locals := 18 } : Room) s m #[(.ref a1), (.int (0 : Int32)), (.int (1 : Int32))] below meth c s₁ [] 0 0 := Stand.of_body Bd
  have e0 : s₁.heap = h0 := by rw [← hh, Bd.state]; rfl
  have N0 := Fr.nil n0
  have pre0 : ∀ t, Steps p.tables e below (s₁.setTop (mkF m 0 #[.val (.ref a1), .val (.int (0 : Int32)), .val (.int (1 : Int32)), .unset, .unset, .unset] [])) t → Steps p.tables e below (s₁.setTop (entryFrame m #[(.ref a1), (.int (0 : Int32)), (.int (1 : Int32))] 6)) t := fun t k => castTop (ef_cm1l m a1) k
  obtain ⟨T1, h1, k1, X1, e1, E1, A1, st1⟩ := newP X0 hx hZ (own_k hw 24 rfl) e0 (g := (mkF m 1 #[.val (.ref a1), .val (.int (0 : Int32)), .val (.int (1 : Int32)), .unset, .unset, .unset] [(.int (1 : Int32))])) rfl (hb hby d5_1) rfl (by decide) (cap := 1) (by decide) (by decide) (by decide) (by decide)
  obtain ⟨b1, g1⟩ : ∃ z, z = h0.size := ⟨_, rfl⟩
  rw [← g1] at A1 st1
  have g_b1 : n0 ≤ b1 := Nat.le_trans Z0 (Nat.le_of_eq g1.symm)
  have sz_b1 : h0.size ≤ b1 := Nat.le_trans (Keep.refl h0 []).1 (Nat.le_of_eq g1.symm)
  have K2 : Keep h0 h1 [] := (Keep.refl h0 []).ext E1
  have V1 : Arv Z h1 b1 k1 .byte (1 : Int32) [(.int (0 : Int32))] (.int (0 : Int32)) := (Arv.new A1 (by decide)).pad (pad_rep [] (.int (0 : Int32)) 1)
  have f4 : Arv Z h1 a1 kc .char (1 : Int32) [(.int c0)] (.int (0 : Int32)) := (hVc.ext E1)
  have f5 : n0 ≤ h1.size := (Nat.le_trans Z0 E1.1)
  obtain ⟨_, _, ⟨T3, L3, k3, n3⟩, -, X3, ⟨Lc3, hQ3, l3, y3, z3⟩, st3⟩ := Jvm.LawKit.callS X1 hx (y := (⟨"java/lang/StringUTF16", "compress", "([CI[BII)I"⟩ : MethodName)) hown (mvT hZ (own_k hw 25 rfl)) (mvT hZ (own_k hw 26 rfl)) (mvT hZ (own_k hw 22 rfl)) (mvT hZ (own_k hw 27 rfl)) (by decide) (backOf (W := 0) (rmCp1l l Z a0 hw [] a1 kc b1 k1 c0 h1 n0 f5 f4 V1 g_b1 (Nat.ne_of_lt (Nat.lt_of_lt_of_le hVc.lt (Nat.le_of_eq g1.symm))) (hk0)) hZ (own_k hw 27 rfl) (own_k hw 22 rfl) (by decide) (by decide)) (g := (mkF m 9 #[.val (.ref a1), .val (.int (0 : Int32)), .val (.int (1 : Int32)), .val (.ref b1), .unset, .unset] [(.int (1 : Int32)), (.int (0 : Int32)), (.ref b1), (.int (0 : Int32)), (.ref a1)])) rfl (by rw [hml]; rfl) (argsL := [(.ref a1), (.int (0 : Int32)), (.ref b1), (.int (0 : Int32)), (.int (1 : Int32))]) (rest := []) (lenOf own_pd_9 rfl) rfl (by show 2 * 0 + _ ≤ _; exact Nat.le_of_eq rfl) (hb hby d5_9) (fun _ _ => ⟨rfl, e1, (by decide : 1 + 0 ≤ _), (by decide : 1 + 0 ≤ _)⟩)
  dsimp only [Pt.U, Pt.locs, Pt.cells, Pt.slots] at X3 l3 y3 z3 st3 hQ3
  subst l3
  subst y3 z3
  obtain ⟨Nq3, Kq3, p3_0, hv3⟩ := hQ3
  have N3 := Fr.app N0 Nq3
  have K6 : Keep h0 T3.heap [] := K2.trans Kq3 (allS (Or.inr sz_b1) all0)
  subst hv3
  obtain ⟨fs, hr, hrun, hended, hW, hsame⟩ := X3.leave (v := (some (.ref b1))) (fun h => by rw [Bd.returns] at h; cases h)
  refine ⟨_, _, pre0 _ ?_, hrun, hended, _, _, rfl, ?_, ⟨_, rfl⟩, hW, hsame.mono (by decide) (by decide)⟩
  · show Steps p.tables e below (s₁.setTop (mkF m 0 #[.val (.ref a1), .val (.int (0 : Int32)), .val (.int (1 : Int32)), .unset, .unset, .unset] [])) _
    refine XS.iloadN X0.here hx rfl (hb hby d5_0) rfl ?_
    show Steps p.tables e below (s₁.setTop (mkF m 1 #[.val (.ref a1), .val (.int (0 : Int32)), .val (.int (1 : Int32)), .unset, .unset, .unset] [(.int (1 : Int32))])) _
    refine st1 _ ?_
    show Steps p.tables e below (T1.setTop (mkF m 3 #[.val (.ref a1), .val (.int (0 : Int32)), .val (.int (1 : Int32)), .unset, .unset, .unset] [(.ref b1)])) _
    refine XS.astoreN X1.here hx rfl (hb hby d5_3) rfl rfl (l' := #[.val (.ref a1), .val (.int (0 : Int32)), .val (.int (1 : Int32)), .val (.ref b1), .unset, .unset]) rfl ?_
    show Steps p.tables e below (T1.setTop (mkF m 4 #[.val (.ref a1), .val (.int (0 : Int32)), .val (.int (1 : Int32)), .val (.ref b1), .unset, .unset] [])) _
    refine XS.aloadN X1.here hx rfl (hb hby d5_4) rfl rfl ?_
    show Steps p.tables e below (T1.setTop (mkF m 5 #[.val (.ref a1), .val (.int (0 : Int32)), .val (.int (1 : Int32)), .val (.ref b1), .unset, .unset] [(.ref a1)])) _
    refine XS.iloadN X1.here hx rfl (hb hby d5_5) rfl ?_
    show Steps p.tables e below (T1.setTop (mkF m 6 #[.val (.ref a1), .val (.int (0 : Int32)), .val (.int (1 : Int32)), .val (.ref b1), .unset, .unset] [(.int (0 : Int32)), (.ref a1)])) _
    refine XS.aloadN X1.here hx rfl (hb hby d5_6) rfl rfl ?_
    show Steps p.tables e below (T1.setTop (mkF m 7 #[.val (.ref a1), .val (.int (0 : Int32)), .val (.int (1 : Int32)), .val (.ref b1), .unset, .unset] [(.ref b1), (.int (0 : Int32)), (.ref a1)])) _
    refine XS.iconst X1.here hx rfl (hb hby d5_7) ?_
    show Steps p.tables e below (T1.setTop (mkF m 8 #[.val (.ref a1), .val (.int (0 : Int32)), .val (.int (1 : Int32)), .val (.ref b1), .unset, .unset] [(.int (0 : Int32)), (.ref b1), (.int (0 : Int32)), (.ref a1)])) _
    refine XS.iloadN X1.here hx rfl (hb hby d5_8) rfl ?_
    show Steps p.tables e below (T1.setTop (mkF m 9 #[.val (.ref a1), .val (.int (0 : Int32)), .val (.int (1 : Int32)), .val (.ref b1), .unset, .unset] [(.int (1 : Int32)), (.int (0 : Int32)), (.ref b1), (.int (0 : Int32)), (.ref a1)])) _
    refine st3 _ ?_
    show Steps p.tables e below (T3.setTop (mkF m 12 #[.val (.ref a1), .val (.int (0 : Int32)), .val (.int (1 : Int32)), .val (.ref b1), .unset, .unset] [(.int (1 : Int32))])) _
    refine XS.istore X3.here hx rfl (hb hby d5_12) rfl (l' := #[.val (.ref a1), .val (.int (0 : Int32)), .val (.int (1 : Int32)), .val (.ref b1), .val (.int (1 : Int32)), .unset]) rfl ?_
    show Steps p.tables e below (T3.setTop (mkF m 14 #[.val (.ref a1), .val (.int (0 : Int32)), .val (.int (1 : Int32)), .val (.ref b1), .val (.int (1 : Int32)), .unset] [])) _
    refine XS.iload X3.here hx rfl (hb hby d5_14) rfl ?_
    show Steps p.tables e below (T3.setTop (mkF m 16 #[.val (.ref a1), .val (.int (0 : Int32)), .val (.int (1 : Int32)), .val (.ref b1), .val (.int (1 : Int32)), .unset] [(.int (1 : Int32))])) _
    refine XS.iloadN X3.here hx rfl (hb hby d5_16) rfl ?_
    show Steps p.tables e below (T3.setTop (mkF m 17 #[.val (.ref a1), .val (.int (0 : Int32)), .val (.int (1 : Int32)), .val (.ref b1), .val (.int (1 : Int32)), .unset] [(.int (1 : Int32)), (.int (1 : Int32))])) _
    refine XS.icmpYes X3.here hx rfl (pc0 := 17) (pc' := 57) rfl (hb hby d5_17) rfl (by decide) (by decide) (by decide) ?_
    show Steps p.tables e below (T3.setTop (mkF m 57 #[.val (.ref a1), .val (.int (0 : Int32)), .val (.int (1 : Int32)), .val (.ref b1), .val (.int (1 : Int32)), .unset] [])) _
    refine XS.aloadN X3.here hx rfl (hb hby d5_57) rfl rfl ?_
    show Steps p.tables e below (T3.setTop (mkF m 58 #[.val (.ref a1), .val (.int (0 : Int32)), .val (.int (1 : Int32)), .val (.ref b1), .val (.int (1 : Int32)), .unset] [(.ref b1)])) _
    exact retOut X3 hx Bd.returns rfl (Or.inr (Or.inr (Or.inr (Or.inr ⟨rfl, rfl, rfl⟩)))) (hb hby d5_58) hr
  · show Qcm1l Z a1 kc c0 h0 n0 _ T3.heap _
    exact ⟨b1, k1, N3, K6, sz_b1, p3_0, rfl⟩
theorem d5_20 : decode jdk_52_method_16_code 20 = .ok (.aload_n 0, 1) := by decide +kernel
theorem d5_21 : decode jdk_52_method_16_code 21 = .ok (.iload_n 1, 1) := by decide +kernel
theorem d5_22 : decode jdk_52_method_16_code 22 = .ok (.iload_n 2, 1) := by decide +kernel
theorem d5_23 : decode jdk_52_method_16_code 23 = .ok (.invokestatic 119, 3) := by decide +kernel
theorem own_pd_10 : parseMethodDescriptor "([CII)[B" = some ⟨[(.array .char), .int, .int], some (.array .byte)⟩ := by decide +kernel
theorem d5_26 : decode jdk_52_method_16_code 26 = .ok (.astore 5, 2) := by decide +kernel
theorem d5_28 : decode jdk_52_method_16_code 28 = .ok (.aload 5, 2) := by decide +kernel
theorem d5_30 : decode jdk_52_method_16_code 30 = .ok (.iload 4, 2) := by decide +kernel
theorem d5_32 : decode jdk_52_method_16_code 32 = .ok (.invokestatic 71, 3) := by decide +kernel
theorem d5_35 : decode jdk_52_method_16_code 35 = .ok (.sipush 255, 3) := by decide +kernel
theorem d5_38 : decode jdk_52_method_16_code 38 = .ok (.if_icmp .gt 16, 3) := by decide +kernel
theorem d5_54 : decode jdk_52_method_16_code 54 = .ok (.aload 5, 2) := by decide +kernel
theorem d5_56 : decode jdk_52_method_16_code 56 = .ok (.areturn, 1) := by decide +kernel
theorem ef_cm1u (m : MethodId) (a1 : Addr) : entryFrame m #[(.ref a1), (.int (0 : Int32)), (.int (1 : Int32))] 6 = mkF m 0 #[.val (.ref a1), .val (.int (0 : Int32)), .val (.int (1 : Int32)), .unset, .unset, .unset] [] := by first | (simp [entryFrame, mkF, argsToLocals, Value.category]; done) | rfl
def Qcm1u (Z : State) (a1 : Addr) (kc : ClassId) (c0 : Int32) (h0 : Heap) (n0 : Nat) (v : Option Value) (h : Heap) (L : List Loc) : Prop := ∃ (bb : Addr) (k0 : ClassId), Fr n0 L ∧ Keep h0 h [] ∧ h0.size ≤ bb ∧ Arv Z h bb k0 .byte (2 : Int32) [(.int (((c0 >>> ((0 : Int32) &&& 31)).toInt8.toInt32).toInt8.toInt32)), (.int (((c0 >>> ((8 : Int32) &&& 31)).toInt8.toInt32).toInt8.toInt32))] (.int (0 : Int32)) ∧ (v = some (.ref bb))
set_option maxRecDepth 65536 in
set_option maxHeartbeats 40000000 in
theorem rmCm1u (l : Launch) (Z : State) (a0 : Array Value) (hw : ∀ d ∈ tables_1, d.before a0 Z = true) (ws : List Jvm.Cond) (a1 : Addr) (kc : ClassId) (c0 : Int32) (h0 : Heap) (n0 : Nat) (Z0 : n0 ≤ h0.size) (hSa : Sta Z Z.heap "java/lang/StringUTF16" "$assertionsDisabled" "Z" (.int (1 : Int32))) (hSh : Sta Z Z.heap "java/lang/StringUTF16" "HI_BYTE_SHIFT" "I" (.int (0 : Int32))) (hSl : Sta Z Z.heap "java/lang/StringUTF16" "LO_BYTE_SHIFT" "I" (.int (8 : Int32))) (hO : Old Z n0 h0) (hVc : Arv Z h0 a1 kc .char (1 : Int32) [(.int c0)] (.int (0 : Int32))) (hk0 : (255 : Int32) < c0) (hH0 : own_H c0) :
    MetFree l (⟨"java/lang/StringUTF16", "compress", "([CII)[B"⟩ : MethodName) (head1 (Jvm.Cond.code (⟨"java/lang/StringUTF16", "compress", "([CII)[B"⟩ : MethodName) jdk_52_method_16_code 6 (some (.array .byte)) :: ws) ({ frames := 3, cells := 2, slots := 3, locals := 40 } : Room)) (fun a U => a = #[(.ref a1), (.int (0 : Int32)), (.int (1 : Int32))] ∧ Z.Warmed39 U.vm ∧ U.heap = h0) (fun _ _ _ _ _ => True) (fun _ U o U' => ∃ v L, o = .returned v ∧ Qcm1u Z a1 kc c0 h0 n0 v U'.heap L ∧ FrameEnd U o U' L ({ frames := 3, cells := 2, slots := 3, locals := 40 } : Room).cells ({ frames := 3, cells := 2, slots := 3, locals := 40 } : Room).slots) := by
  refine MetFree.of_bodySF (plainFor_of_name own_pn_6) hisR ?_
  intro p e s m args below meth c s₁ Bd hml0 hP hK
  obtain ⟨rfl, hZ, hh⟩ := hP
  have hx := Bd.exec
  have hby := Bd.bytes
  have hml : c.maxLocals = 6 := hml0
  have hown : s.vm.findClass "java/lang/StringUTF16" = some m.cls := findClass_of_methodNamed Bd.named
  have hnm := (name_of_methodNamed Bd.named Bd.method).1
  have X0 : Stand p l e ({ frames := 3, cells := 2, slots := 3, locals := 40 } : Room) s m #[(.ref a1), (.int (0 : Int32)), (.int (1 : Int32))] below meth c s₁ [] 0 0 := Stand.of_body Bd
  have e0 : s₁.heap = h0 := by rw [← hh, Bd.state]; rfl
  have N0 := Fr.nil n0
  have pre0 : ∀ t, Steps p.tables e below (s₁.setTop (mkF m 0 #[.val (.ref a1), .val (.int (0 : Int32)), .val (.int (1 : Int32)), .unset, .unset, .unset] [])) t → Steps p.tables e below (s₁.setTop (entryFrame m #[(.ref a1), (.int (0 : Int32)), (.int (1 : Int32))] 6)) t := fun t k => castTop (ef_cm1u m a1) k
  obtain ⟨T1, h1, k1, X1, e1, E1, A1, st1⟩ := newP X0 hx hZ (own_k hw 24 rfl) e0 (g := (mkF m 1 #[.val (.ref a1), .val (.int (0 : Int32)), .val (.int (1 : Int32)), .unset, .unset, .unset] [(.int (1 : Int32))])) rfl (hb hby d5_1) rfl (by decide) (cap := 1) (by decide) (by decide) (by decide) (by decide)
  obtain ⟨b1, g1⟩ : ∃ z, z = h0.size := ⟨_, rfl⟩
  rw [← g1] at A1 st1
  have g_b1 : n0 ≤ b1 := Nat.le_trans Z0 (Nat.le_of_eq g1.symm)
  have sz_b1 : h0.size ≤ b1 := Nat.le_trans (Keep.refl h0 []).1 (Nat.le_of_eq g1.symm)
  have K2 : Keep h0 h1 [] := (Keep.refl h0 []).ext E1
  have V1 : Arv Z h1 b1 k1 .byte (1 : Int32) [(.int (0 : Int32))] (.int (0 : Int32)) := (Arv.new A1 (by decide)).pad (pad_rep [] (.int (0 : Int32)) 1)
  have f4 : Arv Z h1 a1 kc .char (1 : Int32) [(.int c0)] (.int (0 : Int32)) := (hVc.ext E1)
  have f5 : n0 ≤ h1.size := (Nat.le_trans Z0 E1.1)
  obtain ⟨_, _, ⟨T3, L3, k3, n3⟩, -, X3, ⟨Lc3, hQ3, l3, y3, z3⟩, st3⟩ := Jvm.LawKit.callS X1 hx (y := (⟨"java/lang/StringUTF16", "compress", "([CI[BII)I"⟩ : MethodName)) hown (mvT hZ (own_k hw 25 rfl)) (mvT hZ (own_k hw 26 rfl)) (mvT hZ (own_k hw 22 rfl)) (mvT hZ (own_k hw 27 rfl)) (by decide) (backOf (W := 0) (rmCp1u l Z a0 hw [] a1 kc b1 k1 c0 h1 n0 f5 f4 V1 g_b1 (Nat.ne_of_lt (Nat.lt_of_lt_of_le hVc.lt (Nat.le_of_eq g1.symm))) (hk0)) hZ (own_k hw 27 rfl) (own_k hw 22 rfl) (by decide) (by decide)) (g := (mkF m 9 #[.val (.ref a1), .val (.int (0 : Int32)), .val (.int (1 : Int32)), .val (.ref b1), .unset, .unset] [(.int (1 : Int32)), (.int (0 : Int32)), (.ref b1), (.int (0 : Int32)), (.ref a1)])) rfl (by rw [hml]; rfl) (argsL := [(.ref a1), (.int (0 : Int32)), (.ref b1), (.int (0 : Int32)), (.int (1 : Int32))]) (rest := []) (lenOf own_pd_9 rfl) rfl (by show 2 * 0 + _ ≤ _; exact Nat.le_of_eq rfl) (hb hby d5_9) (fun _ _ => ⟨rfl, e1, (by decide : 1 + 0 ≤ _), (by decide : 1 + 0 ≤ _)⟩)
  dsimp only [Pt.U, Pt.locs, Pt.cells, Pt.slots] at X3 l3 y3 z3 st3 hQ3
  subst l3
  subst y3 z3
  obtain ⟨Nq3, eh3, hv3⟩ := hQ3
  have N3 := Fr.app N0 Nq3
  subst hv3
  have f7 : Old Z n0 h1 := (hO.ext E1)
  obtain ⟨_, _, ⟨T6, L6, k6, n6⟩, -, X6, ⟨Lc6, hQ6, l6, y6, z6⟩, st6⟩ := Jvm.LawKit.callS X3 hx (y := (⟨"java/lang/StringUTF16", "toBytes", "([CII)[B"⟩ : MethodName)) hown (mvT hZ (own_k hw 64 rfl)) (mvT hZ (own_k hw 65 rfl)) (mvT hZ (own_k hw 22 rfl)) (mvT hZ (own_k hw 66 rfl)) (by decide) (backOf (W := 0) (rmTb1 l Z a0 hw [] a1 kc c0 h1 n0 f5 hSa hSh hSl f7 f4) hZ (own_k hw 66 rfl) (own_k hw 22 rfl) (by decide) (by decide)) (g := (mkF m 23 #[.val (.ref a1), .val (.int (0 : Int32)), .val (.int (1 : Int32)), .val (.ref b1), .val (.int (0 : Int32)), .unset] [(.int (1 : Int32)), (.int (0 : Int32)), (.ref a1)])) rfl (by rw [hml]; rfl) (argsL := [(.ref a1), (.int (0 : Int32)), (.int (1 : Int32))]) (rest := []) (lenOf own_pd_10 rfl) rfl (by show 2 * 0 + _ ≤ _; exact Nat.le_of_eq rfl) (hb hby d5_23) (fun _ _ => ⟨rfl, eh3, (by decide : 1 + 1 ≤ _), (by decide : 1 + 2 ≤ _)⟩)
  dsimp only [Pt.U, Pt.locs, Pt.cells, Pt.slots] at X6 l6 y6 z6 st6 hQ6
  subst l6
  subst y6 z6
  obtain ⟨bb_6, k0_6, Nq6, Kq6, p6_0, p6_1, hv6⟩ := hQ6
  have N6 := Fr.app N3 Nq6
  have g_bb_6 : n0 ≤ bb_6 := Nat.le_trans f5 p6_0
  have sz_bb_6 : h0.size ≤ bb_6 := Nat.le_trans K2.1 p6_0
  have K8 : Keep h0 T6.heap [] := K2.trans Kq6 all0
  subst hv6
  have f10 : Old Z n0 T6.heap := (f7.keep Kq6 all0)
  have f11 : n0 ≤ T6.heap.size := (Nat.le_trans f5 Kq6.1)
  obtain ⟨_, _, ⟨T9, L9, k9, n9⟩, -, X9, ⟨Lc9, hQ9, l9, y9, z9⟩, st9⟩ := Jvm.LawKit.callS X6 hx (y := (⟨"java/lang/StringUTF16", "getChar", "([BI)C"⟩ : MethodName)) hown (mvT hZ (own_k hw 80 rfl)) (mvT hZ (own_k hw 81 rfl)) (mvT hZ (own_k hw 22 rfl)) (mvT hZ (own_k hw 82 rfl)) (by decide) (backOf (W := 0) (rmGc20 l Z a0 hw [] bb_6 k0_6 (((c0 >>> ((0 : Int32) &&& 31)).toInt8.toInt32).toInt8.toInt32) (((c0 >>> ((8 : Int32) &&& 31)).toInt8.toInt32).toInt8.toInt32) c0 T6.heap n0 f11 hSa hSh hSl f10 p6_1 ((own_dec16 hH0))) hZ (own_k hw 82 rfl) (own_k hw 22 rfl) (by decide) (by decide)) (g := (mkF m 32 #[.val (.ref a1), .val (.int (0 : Int32)), .val (.int (1 : Int32)), .val (.ref b1), .val (.int (0 : Int32)), .val (.ref bb_6)] [(.int (0 : Int32)), (.ref bb_6)])) rfl (by rw [hml]; rfl) (argsL := [(.ref bb_6), (.int (0 : Int32))]) (rest := []) (lenOf own_pd_5 rfl) rfl (by show 2 * 0 + _ ≤ _; exact Nat.le_of_eq rfl) (hb hby d5_32) (fun _ _ => ⟨rfl, rfl, (by decide : 2 + 0 ≤ _), (by decide : 3 + 0 ≤ _)⟩)
  dsimp only [Pt.U, Pt.locs, Pt.cells, Pt.slots] at X9 l9 y9 z9 st9 hQ9
  subst l9
  subst y9 z9
  obtain ⟨Nq9, eh9, hv9⟩ := hQ9
  have N9 := Fr.app N6 Nq9
  subst hv9
  obtain ⟨fs, hr, hrun, hended, hW, hsame⟩ := X9.leave (v := (some (.ref bb_6))) (fun h => by rw [Bd.returns] at h; cases h)
  refine ⟨_, _, pre0 _ ?_, hrun, hended, _, _, rfl, ?_, ⟨_, rfl⟩, hW, hsame.mono (by decide) (by decide)⟩
  · show Steps p.tables e below (s₁.setTop (mkF m 0 #[.val (.ref a1), .val (.int (0 : Int32)), .val (.int (1 : Int32)), .unset, .unset, .unset] [])) _
    refine XS.iloadN X0.here hx rfl (hb hby d5_0) rfl ?_
    show Steps p.tables e below (s₁.setTop (mkF m 1 #[.val (.ref a1), .val (.int (0 : Int32)), .val (.int (1 : Int32)), .unset, .unset, .unset] [(.int (1 : Int32))])) _
    refine st1 _ ?_
    show Steps p.tables e below (T1.setTop (mkF m 3 #[.val (.ref a1), .val (.int (0 : Int32)), .val (.int (1 : Int32)), .unset, .unset, .unset] [(.ref b1)])) _
    refine XS.astoreN X1.here hx rfl (hb hby d5_3) rfl rfl (l' := #[.val (.ref a1), .val (.int (0 : Int32)), .val (.int (1 : Int32)), .val (.ref b1), .unset, .unset]) rfl ?_
    show Steps p.tables e below (T1.setTop (mkF m 4 #[.val (.ref a1), .val (.int (0 : Int32)), .val (.int (1 : Int32)), .val (.ref b1), .unset, .unset] [])) _
    refine XS.aloadN X1.here hx rfl (hb hby d5_4) rfl rfl ?_
    show Steps p.tables e below (T1.setTop (mkF m 5 #[.val (.ref a1), .val (.int (0 : Int32)), .val (.int (1 : Int32)), .val (.ref b1), .unset, .unset] [(.ref a1)])) _
    refine XS.iloadN X1.here hx rfl (hb hby d5_5) rfl ?_
    show Steps p.tables e below (T1.setTop (mkF m 6 #[.val (.ref a1), .val (.int (0 : Int32)), .val (.int (1 : Int32)), .val (.ref b1), .unset, .unset] [(.int (0 : Int32)), (.ref a1)])) _
    refine XS.aloadN X1.here hx rfl (hb hby d5_6) rfl rfl ?_
    show Steps p.tables e below (T1.setTop (mkF m 7 #[.val (.ref a1), .val (.int (0 : Int32)), .val (.int (1 : Int32)), .val (.ref b1), .unset, .unset] [(.ref b1), (.int (0 : Int32)), (.ref a1)])) _
    refine XS.iconst X1.here hx rfl (hb hby d5_7) ?_
    show Steps p.tables e below (T1.setTop (mkF m 8 #[.val (.ref a1), .val (.int (0 : Int32)), .val (.int (1 : Int32)), .val (.ref b1), .unset, .unset] [(.int (0 : Int32)), (.ref b1), (.int (0 : Int32)), (.ref a1)])) _
    refine XS.iloadN X1.here hx rfl (hb hby d5_8) rfl ?_
    show Steps p.tables e below (T1.setTop (mkF m 9 #[.val (.ref a1), .val (.int (0 : Int32)), .val (.int (1 : Int32)), .val (.ref b1), .unset, .unset] [(.int (1 : Int32)), (.int (0 : Int32)), (.ref b1), (.int (0 : Int32)), (.ref a1)])) _
    refine st3 _ ?_
    show Steps p.tables e below (T3.setTop (mkF m 12 #[.val (.ref a1), .val (.int (0 : Int32)), .val (.int (1 : Int32)), .val (.ref b1), .unset, .unset] [(.int (0 : Int32))])) _
    refine XS.istore X3.here hx rfl (hb hby d5_12) rfl (l' := #[.val (.ref a1), .val (.int (0 : Int32)), .val (.int (1 : Int32)), .val (.ref b1), .val (.int (0 : Int32)), .unset]) rfl ?_
    show Steps p.tables e below (T3.setTop (mkF m 14 #[.val (.ref a1), .val (.int (0 : Int32)), .val (.int (1 : Int32)), .val (.ref b1), .val (.int (0 : Int32)), .unset] [])) _
    refine XS.iload X3.here hx rfl (hb hby d5_14) rfl ?_
    show Steps p.tables e below (T3.setTop (mkF m 16 #[.val (.ref a1), .val (.int (0 : Int32)), .val (.int (1 : Int32)), .val (.ref b1), .val (.int (0 : Int32)), .unset] [(.int (0 : Int32))])) _
    refine XS.iloadN X3.here hx rfl (hb hby d5_16) rfl ?_
    show Steps p.tables e below (T3.setTop (mkF m 17 #[.val (.ref a1), .val (.int (0 : Int32)), .val (.int (1 : Int32)), .val (.ref b1), .val (.int (0 : Int32)), .unset] [(.int (1 : Int32)), (.int (0 : Int32))])) _
    refine XS.icmpNo X3.here hx rfl (hb hby d5_17) rfl (by decide) ?_
    show Steps p.tables e below (T3.setTop (mkF m 20 #[.val (.ref a1), .val (.int (0 : Int32)), .val (.int (1 : Int32)), .val (.ref b1), .val (.int (0 : Int32)), .unset] [])) _
    refine XS.aloadN X3.here hx rfl (hb hby d5_20) rfl rfl ?_
    show Steps p.tables e below (T3.setTop (mkF m 21 #[.val (.ref a1), .val (.int (0 : Int32)), .val (.int (1 : Int32)), .val (.ref b1), .val (.int (0 : Int32)), .unset] [(.ref a1)])) _
    refine XS.iloadN X3.here hx rfl (hb hby d5_21) rfl ?_
    show Steps p.tables e below (T3.setTop (mkF m 22 #[.val (.ref a1), .val (.int (0 : Int32)), .val (.int (1 : Int32)), .val (.ref b1), .val (.int (0 : Int32)), .unset] [(.int (0 : Int32)), (.ref a1)])) _
    refine XS.iloadN X3.here hx rfl (hb hby d5_22) rfl ?_
    show Steps p.tables e below (T3.setTop (mkF m 23 #[.val (.ref a1), .val (.int (0 : Int32)), .val (.int (1 : Int32)), .val (.ref b1), .val (.int (0 : Int32)), .unset] [(.int (1 : Int32)), (.int (0 : Int32)), (.ref a1)])) _
    refine st6 _ ?_
    show Steps p.tables e below (T6.setTop (mkF m 26 #[.val (.ref a1), .val (.int (0 : Int32)), .val (.int (1 : Int32)), .val (.ref b1), .val (.int (0 : Int32)), .unset] [(.ref bb_6)])) _
    refine XS.astore X6.here hx rfl (hb hby d5_26) rfl rfl (l' := #[.val (.ref a1), .val (.int (0 : Int32)), .val (.int (1 : Int32)), .val (.ref b1), .val (.int (0 : Int32)), .val (.ref bb_6)]) rfl ?_
    show Steps p.tables e below (T6.setTop (mkF m 28 #[.val (.ref a1), .val (.int (0 : Int32)), .val (.int (1 : Int32)), .val (.ref b1), .val (.int (0 : Int32)), .val (.ref bb_6)] [])) _
    refine XS.aload X6.here hx rfl (hb hby d5_28) rfl rfl ?_
    show Steps p.tables e below (T6.setTop (mkF m 30 #[.val (.ref a1), .val (.int (0 : Int32)), .val (.int (1 : Int32)), .val (.ref b1), .val (.int (0 : Int32)), .val (.ref bb_6)] [(.ref bb_6)])) _
    refine XS.iload X6.here hx rfl (hb hby d5_30) rfl ?_
    show Steps p.tables e below (T6.setTop (mkF m 32 #[.val (.ref a1), .val (.int (0 : Int32)), .val (.int (1 : Int32)), .val (.ref b1), .val (.int (0 : Int32)), .val (.ref bb_6)] [(.int (0 : Int32)), (.ref bb_6)])) _
    refine st9 _ ?_
    show Steps p.tables e below (T9.setTop (mkF m 35 #[.val (.ref a1), .val (.int (0 : Int32)), .val (.int (1 : Int32)), .val (.ref b1), .val (.int (0 : Int32)), .val (.ref bb_6)] [(.int c0)])) _
    refine XS.sipush X9.here hx rfl (hb hby d5_35) ?_
    show Steps p.tables e below (T9.setTop (mkF m 38 #[.val (.ref a1), .val (.int (0 : Int32)), .val (.int (1 : Int32)), .val (.ref b1), .val (.int (0 : Int32)), .val (.ref bb_6)] [(.int (255 : Int32)), (.int c0)])) _
    refine XS.icmpYes X9.here hx rfl (pc0 := 38) (pc' := 54) rfl (hb hby d5_38) rfl (tlt hk0).2.2.1 (by decide) (by decide) ?_
    show Steps p.tables e below (T9.setTop (mkF m 54 #[.val (.ref a1), .val (.int (0 : Int32)), .val (.int (1 : Int32)), .val (.ref b1), .val (.int (0 : Int32)), .val (.ref bb_6)] [])) _
    refine XS.aload X9.here hx rfl (hb hby d5_54) rfl rfl ?_
    show Steps p.tables e below (T9.setTop (mkF m 56 #[.val (.ref a1), .val (.int (0 : Int32)), .val (.int (1 : Int32)), .val (.ref b1), .val (.int (0 : Int32)), .val (.ref bb_6)] [(.ref bb_6)])) _
    exact retOut X9 hx Bd.returns rfl (Or.inr (Or.inr (Or.inr (Or.inr ⟨rfl, rfl, rfl⟩)))) (hb hby d5_56) hr
  · show Qcm1u Z a1 kc c0 h0 n0 _ T9.heap _
    rw [eh9]
    exact ⟨bb_6, k0_6, N9, K8, sz_bb_6, p6_1, rfl⟩
theorem ef_cm2l (m : MethodId) (a1 : Addr) : entryFrame m #[(.ref a1), (.int (0 : Int32)), (.int (2 : Int32))] 6 = mkF m 0 #[.val (.ref a1), .val (.int (0 : Int32)), .val (.int (2 : Int32)), .unset, .unset, .unset] [] := by first | (simp [entryFrame, mkF, argsToLocals, Value.category]; done) | rfl
def Qcm2l (Z : State) (a1 : Addr) (kc : ClassId) (c0 : Int32) (c1 : Int32) (h0 : Heap) (n0 : Nat) (v : Option Value) (h : Heap) (L : List Loc) : Prop := ∃ (bb : Addr) (k0 : ClassId), Fr n0 L ∧ Keep h0 h [] ∧ h0.size ≤ bb ∧ Arv Z h bb k0 .byte (2 : Int32) [(.int ((c0.toInt8.toInt32).toInt8.toInt32)), (.int ((c1.toInt8.toInt32).toInt8.toInt32))] (.int (0 : Int32)) ∧ (v = some (.ref bb))
set_option maxRecDepth 65536 in
set_option maxHeartbeats 40000000 in
theorem rmCm2l (l : Launch) (Z : State) (a0 : Array Value) (hw : ∀ d ∈ tables_1, d.before a0 Z = true) (ws : List Jvm.Cond) (a1 : Addr) (kc : ClassId) (c0 : Int32) (c1 : Int32) (h0 : Heap) (n0 : Nat) (Z0 : n0 ≤ h0.size) (hVc : Arv Z h0 a1 kc .char (2 : Int32) [(.int c0), (.int c1)] (.int (0 : Int32))) (hk0 : ¬ ((255 : Int32) < c0)) (hk1 : ¬ ((255 : Int32) < c1)) (hH0 : own_H c0) (hH1 : own_H c1) :
    MetFree l (⟨"java/lang/StringUTF16", "compress", "([CII)[B"⟩ : MethodName) (head1 (Jvm.Cond.code (⟨"java/lang/StringUTF16", "compress", "([CII)[B"⟩ : MethodName) jdk_52_method_16_code 6 (some (.array .byte)) :: ws) ({ frames := 1, cells := 1, slots := 2, locals := 18 } : Room)) (fun a U => a = #[(.ref a1), (.int (0 : Int32)), (.int (2 : Int32))] ∧ Z.Warmed39 U.vm ∧ U.heap = h0) (fun _ _ _ _ _ => True) (fun _ U o U' => ∃ v L, o = .returned v ∧ Qcm2l Z a1 kc c0 c1 h0 n0 v U'.heap L ∧ FrameEnd U o U' L ({ frames := 1, cells := 1, slots := 2, locals := 18 } : Room).cells ({ frames := 1, cells := 1, slots := 2, locals := 18 } : Room).slots) := by
  refine MetFree.of_bodySF (plainFor_of_name own_pn_6) hisR ?_
  intro p e s m args below meth c s₁ Bd hml0 hP hK
  obtain ⟨rfl, hZ, hh⟩ := hP
  have hx := Bd.exec
  have hby := Bd.bytes
  have hml : c.maxLocals = 6 := hml0
  have hown : s.vm.findClass "java/lang/StringUTF16" = some m.cls := findClass_of_methodNamed Bd.named
  have hnm := (name_of_methodNamed Bd.named Bd.method).1
  have X0 : Stand p l e ({ frames := 1, cells := 1, slots := 2, locals := 18 } : Room) s m #[(.ref a1), (.int (0 : Int32)), (.int (2 : Int32))] below meth c s₁ [] 0 0 := Stand.of_body Bd
  have e0 : s₁.heap = h0 := by rw [← hh, Bd.state]; rfl
  have N0 := Fr.nil n0
  have pre0 : ∀ t, Steps p.tables e below (s₁.setTop (mkF m 0 #[.val (.ref a1), .val (.int (0 : Int32)), .val (.int (2 : Int32)), .unset, .unset, .unset] [])) t → Steps p.tables e below (s₁.setTop (entryFrame m #[(.ref a1), (.int (0 : Int32)), (.int (2 : Int32))] 6)) t := fun t k => castTop (ef_cm2l m a1) k
  obtain ⟨T1, h1, k1, X1, e1, E1, A1, st1⟩ := newP X0 hx hZ (own_k hw 24 rfl) e0 (g := (mkF m 1 #[.val (.ref a1), .val (.int (0 : Int32)), .val (.int (2 : Int32)), .unset, .unset, .unset] [(.int (2 : Int32))])) rfl (hb hby d5_1) rfl (by decide) (cap := 2) (by decide) (by decide) (by decide) (by decide)
  obtain ⟨b1, g1⟩ : ∃ z, z = h0.size := ⟨_, rfl⟩
  rw [← g1] at A1 st1
  have g_b1 : n0 ≤ b1 := Nat.le_trans Z0 (Nat.le_of_eq g1.symm)
  have sz_b1 : h0.size ≤ b1 := Nat.le_trans (Keep.refl h0 []).1 (Nat.le_of_eq g1.symm)
  have K2 : Keep h0 h1 [] := (Keep.refl h0 []).ext E1
  have V1 : Arv Z h1 b1 k1 .byte (2 : Int32) [(.int (0 : Int32)), (.int (0 : Int32))] (.int (0 : Int32)) := (Arv.new A1 (by decide)).pad (pad_rep [] (.int (0 : Int32)) 2)
  have f4 : Arv Z h1 a1 kc .char (2 : Int32) [(.int c0), (.int c1)] (.int (0 : Int32)) := (hVc.ext E1)
  have f5 : n0 ≤ h1.size := (Nat.le_trans Z0 E1.1)
  obtain ⟨_, _, ⟨T3, L3, k3, n3⟩, -, X3, ⟨Lc3, hQ3, l3, y3, z3⟩, st3⟩ := Jvm.LawKit.callS X1 hx (y := (⟨"java/lang/StringUTF16", "compress", "([CI[BII)I"⟩ : MethodName)) hown (mvT hZ (own_k hw 25 rfl)) (mvT hZ (own_k hw 26 rfl)) (mvT hZ (own_k hw 22 rfl)) (mvT hZ (own_k hw 27 rfl)) (by decide) (backOf (W := 0) (rmCp2l l Z a0 hw [] a1 kc b1 k1 c0 c1 h1 n0 f5 f4 V1 g_b1 (Nat.ne_of_lt (Nat.lt_of_lt_of_le hVc.lt (Nat.le_of_eq g1.symm))) (hk0) (hk1)) hZ (own_k hw 27 rfl) (own_k hw 22 rfl) (by decide) (by decide)) (g := (mkF m 9 #[.val (.ref a1), .val (.int (0 : Int32)), .val (.int (2 : Int32)), .val (.ref b1), .unset, .unset] [(.int (2 : Int32)), (.int (0 : Int32)), (.ref b1), (.int (0 : Int32)), (.ref a1)])) rfl (by rw [hml]; rfl) (argsL := [(.ref a1), (.int (0 : Int32)), (.ref b1), (.int (0 : Int32)), (.int (2 : Int32))]) (rest := []) (lenOf own_pd_9 rfl) rfl (by show 2 * 0 + _ ≤ _; exact Nat.le_of_eq rfl) (hb hby d5_9) (fun _ _ => ⟨rfl, e1, (by decide : 1 + 0 ≤ _), (by decide : 2 + 0 ≤ _)⟩)
  dsimp only [Pt.U, Pt.locs, Pt.cells, Pt.slots] at X3 l3 y3 z3 st3 hQ3
  subst l3
  subst y3 z3
  obtain ⟨Nq3, Kq3, p3_0, hv3⟩ := hQ3
  have N3 := Fr.app N0 Nq3
  have K6 : Keep h0 T3.heap [] := K2.trans Kq3 (allS (Or.inr sz_b1) all0)
  subst hv3
  obtain ⟨fs, hr, hrun, hended, hW, hsame⟩ := X3.leave (v := (some (.ref b1))) (fun h => by rw [Bd.returns] at h; cases h)
  refine ⟨_, _, pre0 _ ?_, hrun, hended, _, _, rfl, ?_, ⟨_, rfl⟩, hW, hsame.mono (by decide) (by decide)⟩
  · show Steps p.tables e below (s₁.setTop (mkF m 0 #[.val (.ref a1), .val (.int (0 : Int32)), .val (.int (2 : Int32)), .unset, .unset, .unset] [])) _
    refine XS.iloadN X0.here hx rfl (hb hby d5_0) rfl ?_
    show Steps p.tables e below (s₁.setTop (mkF m 1 #[.val (.ref a1), .val (.int (0 : Int32)), .val (.int (2 : Int32)), .unset, .unset, .unset] [(.int (2 : Int32))])) _
    refine st1 _ ?_
    show Steps p.tables e below (T1.setTop (mkF m 3 #[.val (.ref a1), .val (.int (0 : Int32)), .val (.int (2 : Int32)), .unset, .unset, .unset] [(.ref b1)])) _
    refine XS.astoreN X1.here hx rfl (hb hby d5_3) rfl rfl (l' := #[.val (.ref a1), .val (.int (0 : Int32)), .val (.int (2 : Int32)), .val (.ref b1), .unset, .unset]) rfl ?_
    show Steps p.tables e below (T1.setTop (mkF m 4 #[.val (.ref a1), .val (.int (0 : Int32)), .val (.int (2 : Int32)), .val (.ref b1), .unset, .unset] [])) _
    refine XS.aloadN X1.here hx rfl (hb hby d5_4) rfl rfl ?_
    show Steps p.tables e below (T1.setTop (mkF m 5 #[.val (.ref a1), .val (.int (0 : Int32)), .val (.int (2 : Int32)), .val (.ref b1), .unset, .unset] [(.ref a1)])) _
    refine XS.iloadN X1.here hx rfl (hb hby d5_5) rfl ?_
    show Steps p.tables e below (T1.setTop (mkF m 6 #[.val (.ref a1), .val (.int (0 : Int32)), .val (.int (2 : Int32)), .val (.ref b1), .unset, .unset] [(.int (0 : Int32)), (.ref a1)])) _
    refine XS.aloadN X1.here hx rfl (hb hby d5_6) rfl rfl ?_
    show Steps p.tables e below (T1.setTop (mkF m 7 #[.val (.ref a1), .val (.int (0 : Int32)), .val (.int (2 : Int32)), .val (.ref b1), .unset, .unset] [(.ref b1), (.int (0 : Int32)), (.ref a1)])) _
    refine XS.iconst X1.here hx rfl (hb hby d5_7) ?_
    show Steps p.tables e below (T1.setTop (mkF m 8 #[.val (.ref a1), .val (.int (0 : Int32)), .val (.int (2 : Int32)), .val (.ref b1), .unset, .unset] [(.int (0 : Int32)), (.ref b1), (.int (0 : Int32)), (.ref a1)])) _
    refine XS.iloadN X1.here hx rfl (hb hby d5_8) rfl ?_
    show Steps p.tables e below (T1.setTop (mkF m 9 #[.val (.ref a1), .val (.int (0 : Int32)), .val (.int (2 : Int32)), .val (.ref b1), .unset, .unset] [(.int (2 : Int32)), (.int (0 : Int32)), (.ref b1), (.int (0 : Int32)), (.ref a1)])) _
    refine st3 _ ?_
    show Steps p.tables e below (T3.setTop (mkF m 12 #[.val (.ref a1), .val (.int (0 : Int32)), .val (.int (2 : Int32)), .val (.ref b1), .unset, .unset] [(.int (2 : Int32))])) _
    refine XS.istore X3.here hx rfl (hb hby d5_12) rfl (l' := #[.val (.ref a1), .val (.int (0 : Int32)), .val (.int (2 : Int32)), .val (.ref b1), .val (.int (2 : Int32)), .unset]) rfl ?_
    show Steps p.tables e below (T3.setTop (mkF m 14 #[.val (.ref a1), .val (.int (0 : Int32)), .val (.int (2 : Int32)), .val (.ref b1), .val (.int (2 : Int32)), .unset] [])) _
    refine XS.iload X3.here hx rfl (hb hby d5_14) rfl ?_
    show Steps p.tables e below (T3.setTop (mkF m 16 #[.val (.ref a1), .val (.int (0 : Int32)), .val (.int (2 : Int32)), .val (.ref b1), .val (.int (2 : Int32)), .unset] [(.int (2 : Int32))])) _
    refine XS.iloadN X3.here hx rfl (hb hby d5_16) rfl ?_
    show Steps p.tables e below (T3.setTop (mkF m 17 #[.val (.ref a1), .val (.int (0 : Int32)), .val (.int (2 : Int32)), .val (.ref b1), .val (.int (2 : Int32)), .unset] [(.int (2 : Int32)), (.int (2 : Int32))])) _
    refine XS.icmpYes X3.here hx rfl (pc0 := 17) (pc' := 57) rfl (hb hby d5_17) rfl (by decide) (by decide) (by decide) ?_
    show Steps p.tables e below (T3.setTop (mkF m 57 #[.val (.ref a1), .val (.int (0 : Int32)), .val (.int (2 : Int32)), .val (.ref b1), .val (.int (2 : Int32)), .unset] [])) _
    refine XS.aloadN X3.here hx rfl (hb hby d5_57) rfl rfl ?_
    show Steps p.tables e below (T3.setTop (mkF m 58 #[.val (.ref a1), .val (.int (0 : Int32)), .val (.int (2 : Int32)), .val (.ref b1), .val (.int (2 : Int32)), .unset] [(.ref b1)])) _
    exact retOut X3 hx Bd.returns rfl (Or.inr (Or.inr (Or.inr (Or.inr ⟨rfl, rfl, rfl⟩)))) (hb hby d5_58) hr
  · show Qcm2l Z a1 kc c0 c1 h0 n0 _ T3.heap _
    exact ⟨b1, k1, N3, K6, sz_b1, p3_0, rfl⟩
theorem ef_cm2u (m : MethodId) (a1 : Addr) : entryFrame m #[(.ref a1), (.int (0 : Int32)), (.int (2 : Int32))] 6 = mkF m 0 #[.val (.ref a1), .val (.int (0 : Int32)), .val (.int (2 : Int32)), .unset, .unset, .unset] [] := by first | (simp [entryFrame, mkF, argsToLocals, Value.category]; done) | rfl
def Qcm2u (Z : State) (a1 : Addr) (kc : ClassId) (c0 : Int32) (c1 : Int32) (h0 : Heap) (n0 : Nat) (v : Option Value) (h : Heap) (L : List Loc) : Prop := ∃ (bb : Addr) (k0 : ClassId), Fr n0 L ∧ Keep h0 h [] ∧ h0.size ≤ bb ∧ Arv Z h bb k0 .byte (4 : Int32) [(.int (((c0 >>> ((0 : Int32) &&& 31)).toInt8.toInt32).toInt8.toInt32)), (.int (((c0 >>> ((8 : Int32) &&& 31)).toInt8.toInt32).toInt8.toInt32)), (.int (((c1 >>> ((0 : Int32) &&& 31)).toInt8.toInt32).toInt8.toInt32)), (.int (((c1 >>> ((8 : Int32) &&& 31)).toInt8.toInt32).toInt8.toInt32))] (.int (0 : Int32)) ∧ (v = some (.ref bb))
set_option maxRecDepth 65536 in
set_option maxHeartbeats 40000000 in
theorem rmCm2u (l : Launch) (Z : State) (a0 : Array Value) (hw : ∀ d ∈ tables_1, d.before a0 Z = true) (ws : List Jvm.Cond) (a1 : Addr) (kc : ClassId) (c0 : Int32) (c1 : Int32) (h0 : Heap) (n0 : Nat) (Z0 : n0 ≤ h0.size) (hSa : Sta Z Z.heap "java/lang/StringUTF16" "$assertionsDisabled" "Z" (.int (1 : Int32))) (hSh : Sta Z Z.heap "java/lang/StringUTF16" "HI_BYTE_SHIFT" "I" (.int (0 : Int32))) (hSl : Sta Z Z.heap "java/lang/StringUTF16" "LO_BYTE_SHIFT" "I" (.int (8 : Int32))) (hO : Old Z n0 h0) (hVc : Arv Z h0 a1 kc .char (2 : Int32) [(.int c0), (.int c1)] (.int (0 : Int32))) (hk0 : (255 : Int32) < c0) (hH0 : own_H c0) (hH1 : own_H c1) :
    MetFree l (⟨"java/lang/StringUTF16", "compress", "([CII)[B"⟩ : MethodName) (head1 (Jvm.Cond.code (⟨"java/lang/StringUTF16", "compress", "([CII)[B"⟩ : MethodName) jdk_52_method_16_code 6 (some (.array .byte)) :: ws) ({ frames := 3, cells := 2, slots := 6, locals := 40 } : Room)) (fun a U => a = #[(.ref a1), (.int (0 : Int32)), (.int (2 : Int32))] ∧ Z.Warmed39 U.vm ∧ U.heap = h0) (fun _ _ _ _ _ => True) (fun _ U o U' => ∃ v L, o = .returned v ∧ Qcm2u Z a1 kc c0 c1 h0 n0 v U'.heap L ∧ FrameEnd U o U' L ({ frames := 3, cells := 2, slots := 6, locals := 40 } : Room).cells ({ frames := 3, cells := 2, slots := 6, locals := 40 } : Room).slots) := by
  refine MetFree.of_bodySF (plainFor_of_name own_pn_6) hisR ?_
  intro p e s m args below meth c s₁ Bd hml0 hP hK
  obtain ⟨rfl, hZ, hh⟩ := hP
  have hx := Bd.exec
  have hby := Bd.bytes
  have hml : c.maxLocals = 6 := hml0
  have hown : s.vm.findClass "java/lang/StringUTF16" = some m.cls := findClass_of_methodNamed Bd.named
  have hnm := (name_of_methodNamed Bd.named Bd.method).1
  have X0 : Stand p l e ({ frames := 3, cells := 2, slots := 6, locals := 40 } : Room) s m #[(.ref a1), (.int (0 : Int32)), (.int (2 : Int32))] below meth c s₁ [] 0 0 := Stand.of_body Bd
  have e0 : s₁.heap = h0 := by rw [← hh, Bd.state]; rfl
  have N0 := Fr.nil n0
  have pre0 : ∀ t, Steps p.tables e below (s₁.setTop (mkF m 0 #[.val (.ref a1), .val (.int (0 : Int32)), .val (.int (2 : Int32)), .unset, .unset, .unset] [])) t → Steps p.tables e below (s₁.setTop (entryFrame m #[(.ref a1), (.int (0 : Int32)), (.int (2 : Int32))] 6)) t := fun t k => castTop (ef_cm2u m a1) k
  obtain ⟨T1, h1, k1, X1, e1, E1, A1, st1⟩ := newP X0 hx hZ (own_k hw 24 rfl) e0 (g := (mkF m 1 #[.val (.ref a1), .val (.int (0 : Int32)), .val (.int (2 : Int32)), .unset, .unset, .unset] [(.int (2 : Int32))])) rfl (hb hby d5_1) rfl (by decide) (cap := 2) (by decide) (by decide) (by decide) (by decide)
  obtain ⟨b1, g1⟩ : ∃ z, z = h0.size := ⟨_, rfl⟩
  rw [← g1] at A1 st1
  have g_b1 : n0 ≤ b1 := Nat.le_trans Z0 (Nat.le_of_eq g1.symm)
  have sz_b1 : h0.size ≤ b1 := Nat.le_trans (Keep.refl h0 []).1 (Nat.le_of_eq g1.symm)
  have K2 : Keep h0 h1 [] := (Keep.refl h0 []).ext E1
  have V1 : Arv Z h1 b1 k1 .byte (2 : Int32) [(.int (0 : Int32)), (.int (0 : Int32))] (.int (0 : Int32)) := (Arv.new A1 (by decide)).pad (pad_rep [] (.int (0 : Int32)) 2)
  have f4 : Arv Z h1 a1 kc .char (2 : Int32) [(.int c0), (.int c1)] (.int (0 : Int32)) := (hVc.ext E1)
  have f5 : n0 ≤ h1.size := (Nat.le_trans Z0 E1.1)
  obtain ⟨_, _, ⟨T3, L3, k3, n3⟩, -, X3, ⟨Lc3, hQ3, l3, y3, z3⟩, st3⟩ := Jvm.LawKit.callS X1 hx (y := (⟨"java/lang/StringUTF16", "compress", "([CI[BII)I"⟩ : MethodName)) hown (mvT hZ (own_k hw 25 rfl)) (mvT hZ (own_k hw 26 rfl)) (mvT hZ (own_k hw 22 rfl)) (mvT hZ (own_k hw 27 rfl)) (by decide) (backOf (W := 0) (rmCp2u l Z a0 hw [] a1 kc b1 k1 c0 c1 h1 n0 f5 f4 V1 g_b1 (Nat.ne_of_lt (Nat.lt_of_lt_of_le hVc.lt (Nat.le_of_eq g1.symm))) (hk0)) hZ (own_k hw 27 rfl) (own_k hw 22 rfl) (by decide) (by decide)) (g := (mkF m 9 #[.val (.ref a1), .val (.int (0 : Int32)), .val (.int (2 : Int32)), .val (.ref b1), .unset, .unset] [(.int (2 : Int32)), (.int (0 : Int32)), (.ref b1), (.int (0 : Int32)), (.ref a1)])) rfl (by rw [hml]; rfl) (argsL := [(.ref a1), (.int (0 : Int32)), (.ref b1), (.int (0 : Int32)), (.int (2 : Int32))]) (rest := []) (lenOf own_pd_9 rfl) rfl (by show 2 * 0 + _ ≤ _; exact Nat.le_of_eq rfl) (hb hby d5_9) (fun _ _ => ⟨rfl, e1, (by decide : 1 + 0 ≤ _), (by decide : 2 + 0 ≤ _)⟩)
  dsimp only [Pt.U, Pt.locs, Pt.cells, Pt.slots] at X3 l3 y3 z3 st3 hQ3
  subst l3
  subst y3 z3
  obtain ⟨Nq3, eh3, hv3⟩ := hQ3
  have N3 := Fr.app N0 Nq3
  subst hv3
  have f7 : Old Z n0 h1 := (hO.ext E1)
  obtain ⟨_, _, ⟨T6, L6, k6, n6⟩, -, X6, ⟨Lc6, hQ6, l6, y6, z6⟩, st6⟩ := Jvm.LawKit.callS X3 hx (y := (⟨"java/lang/StringUTF16", "toBytes", "([CII)[B"⟩ : MethodName)) hown (mvT hZ (own_k hw 64 rfl)) (mvT hZ (own_k hw 65 rfl)) (mvT hZ (own_k hw 22 rfl)) (mvT hZ (own_k hw 66 rfl)) (by decide) (backOf (W := 0) (rmTb2 l Z a0 hw [] a1 kc c0 c1 h1 n0 f5 hSa hSh hSl f7 f4) hZ (own_k hw 66 rfl) (own_k hw 22 rfl) (by decide) (by decide)) (g := (mkF m 23 #[.val (.ref a1), .val (.int (0 : Int32)), .val (.int (2 : Int32)), .val (.ref b1), .val (.int (0 : Int32)), .unset] [(.int (2 : Int32)), (.int (0 : Int32)), (.ref a1)])) rfl (by rw [hml]; rfl) (argsL := [(.ref a1), (.int (0 : Int32)), (.int (2 : Int32))]) (rest := []) (lenOf own_pd_10 rfl) rfl (by show 2 * 0 + _ ≤ _; exact Nat.le_of_eq rfl) (hb hby d5_23) (fun _ _ => ⟨rfl, eh3, (by decide : 1 + 1 ≤ _), (by decide : 2 + 4 ≤ _)⟩)
  dsimp only [Pt.U, Pt.locs, Pt.cells, Pt.slots] at X6 l6 y6 z6 st6 hQ6
  subst l6
  subst y6 z6
  obtain ⟨bb_6, k0_6, Nq6, Kq6, p6_0, p6_1, hv6⟩ := hQ6
  have N6 := Fr.app N3 Nq6
  have g_bb_6 : n0 ≤ bb_6 := Nat.le_trans f5 p6_0
  have sz_bb_6 : h0.size ≤ bb_6 := Nat.le_trans K2.1 p6_0
  have K8 : Keep h0 T6.heap [] := K2.trans Kq6 all0
  subst hv6
  have f10 : Old Z n0 T6.heap := (f7.keep Kq6 all0)
  have f11 : n0 ≤ T6.heap.size := (Nat.le_trans f5 Kq6.1)
  obtain ⟨_, _, ⟨T9, L9, k9, n9⟩, -, X9, ⟨Lc9, hQ9, l9, y9, z9⟩, st9⟩ := Jvm.LawKit.callS X6 hx (y := (⟨"java/lang/StringUTF16", "getChar", "([BI)C"⟩ : MethodName)) hown (mvT hZ (own_k hw 80 rfl)) (mvT hZ (own_k hw 81 rfl)) (mvT hZ (own_k hw 22 rfl)) (mvT hZ (own_k hw 82 rfl)) (by decide) (backOf (W := 0) (rmGc40 l Z a0 hw [] bb_6 k0_6 (((c0 >>> ((0 : Int32) &&& 31)).toInt8.toInt32).toInt8.toInt32) (((c0 >>> ((8 : Int32) &&& 31)).toInt8.toInt32).toInt8.toInt32) (((c1 >>> ((0 : Int32) &&& 31)).toInt8.toInt32).toInt8.toInt32) (((c1 >>> ((8 : Int32) &&& 31)).toInt8.toInt32).toInt8.toInt32) c0 T6.heap n0 f11 hSa hSh hSl f10 p6_1 ((own_dec16 hH0))) hZ (own_k hw 82 rfl) (own_k hw 22 rfl) (by decide) (by decide)) (g := (mkF m 32 #[.val (.ref a1), .val (.int (0 : Int32)), .val (.int (2 : Int32)), .val (.ref b1), .val (.int (0 : Int32)), .val (.ref bb_6)] [(.int (0 : Int32)), (.ref bb_6)])) rfl (by rw [hml]; rfl) (argsL := [(.ref bb_6), (.int (0 : Int32))]) (rest := []) (lenOf own_pd_5 rfl) rfl (by show 2 * 0 + _ ≤ _; exact Nat.le_of_eq rfl) (hb hby d5_32) (fun _ _ => ⟨rfl, rfl, (by decide : 2 + 0 ≤ _), (by decide : 6 + 0 ≤ _)⟩)
  dsimp only [Pt.U, Pt.locs, Pt.cells, Pt.slots] at X9 l9 y9 z9 st9 hQ9
  subst l9
  subst y9 z9
  obtain ⟨Nq9, eh9, hv9⟩ := hQ9
  have N9 := Fr.app N6 Nq9
  subst hv9
  obtain ⟨fs, hr, hrun, hended, hW, hsame⟩ := X9.leave (v := (some (.ref bb_6))) (fun h => by rw [Bd.returns] at h; cases h)
  refine ⟨_, _, pre0 _ ?_, hrun, hended, _, _, rfl, ?_, ⟨_, rfl⟩, hW, hsame.mono (by decide) (by decide)⟩
  · show Steps p.tables e below (s₁.setTop (mkF m 0 #[.val (.ref a1), .val (.int (0 : Int32)), .val (.int (2 : Int32)), .unset, .unset, .unset] [])) _
    refine XS.iloadN X0.here hx rfl (hb hby d5_0) rfl ?_
    show Steps p.tables e below (s₁.setTop (mkF m 1 #[.val (.ref a1), .val (.int (0 : Int32)), .val (.int (2 : Int32)), .unset, .unset, .unset] [(.int (2 : Int32))])) _
    refine st1 _ ?_
    show Steps p.tables e below (T1.setTop (mkF m 3 #[.val (.ref a1), .val (.int (0 : Int32)), .val (.int (2 : Int32)), .unset, .unset, .unset] [(.ref b1)])) _
    refine XS.astoreN X1.here hx rfl (hb hby d5_3) rfl rfl (l' := #[.val (.ref a1), .val (.int (0 : Int32)), .val (.int (2 : Int32)), .val (.ref b1), .unset, .unset]) rfl ?_
    show Steps p.tables e below (T1.setTop (mkF m 4 #[.val (.ref a1), .val (.int (0 : Int32)), .val (.int (2 : Int32)), .val (.ref b1), .unset, .unset] [])) _
    refine XS.aloadN X1.here hx rfl (hb hby d5_4) rfl rfl ?_
    show Steps p.tables e below (T1.setTop (mkF m 5 #[.val (.ref a1), .val (.int (0 : Int32)), .val (.int (2 : Int32)), .val (.ref b1), .unset, .unset] [(.ref a1)])) _
    refine XS.iloadN X1.here hx rfl (hb hby d5_5) rfl ?_
    show Steps p.tables e below (T1.setTop (mkF m 6 #[.val (.ref a1), .val (.int (0 : Int32)), .val (.int (2 : Int32)), .val (.ref b1), .unset, .unset] [(.int (0 : Int32)), (.ref a1)])) _
    refine XS.aloadN X1.here hx rfl (hb hby d5_6) rfl rfl ?_
    show Steps p.tables e below (T1.setTop (mkF m 7 #[.val (.ref a1), .val (.int (0 : Int32)), .val (.int (2 : Int32)), .val (.ref b1), .unset, .unset] [(.ref b1), (.int (0 : Int32)), (.ref a1)])) _
    refine XS.iconst X1.here hx rfl (hb hby d5_7) ?_
    show Steps p.tables e below (T1.setTop (mkF m 8 #[.val (.ref a1), .val (.int (0 : Int32)), .val (.int (2 : Int32)), .val (.ref b1), .unset, .unset] [(.int (0 : Int32)), (.ref b1), (.int (0 : Int32)), (.ref a1)])) _
    refine XS.iloadN X1.here hx rfl (hb hby d5_8) rfl ?_
    show Steps p.tables e below (T1.setTop (mkF m 9 #[.val (.ref a1), .val (.int (0 : Int32)), .val (.int (2 : Int32)), .val (.ref b1), .unset, .unset] [(.int (2 : Int32)), (.int (0 : Int32)), (.ref b1), (.int (0 : Int32)), (.ref a1)])) _
    refine st3 _ ?_
    show Steps p.tables e below (T3.setTop (mkF m 12 #[.val (.ref a1), .val (.int (0 : Int32)), .val (.int (2 : Int32)), .val (.ref b1), .unset, .unset] [(.int (0 : Int32))])) _
    refine XS.istore X3.here hx rfl (hb hby d5_12) rfl (l' := #[.val (.ref a1), .val (.int (0 : Int32)), .val (.int (2 : Int32)), .val (.ref b1), .val (.int (0 : Int32)), .unset]) rfl ?_
    show Steps p.tables e below (T3.setTop (mkF m 14 #[.val (.ref a1), .val (.int (0 : Int32)), .val (.int (2 : Int32)), .val (.ref b1), .val (.int (0 : Int32)), .unset] [])) _
    refine XS.iload X3.here hx rfl (hb hby d5_14) rfl ?_
    show Steps p.tables e below (T3.setTop (mkF m 16 #[.val (.ref a1), .val (.int (0 : Int32)), .val (.int (2 : Int32)), .val (.ref b1), .val (.int (0 : Int32)), .unset] [(.int (0 : Int32))])) _
    refine XS.iloadN X3.here hx rfl (hb hby d5_16) rfl ?_
    show Steps p.tables e below (T3.setTop (mkF m 17 #[.val (.ref a1), .val (.int (0 : Int32)), .val (.int (2 : Int32)), .val (.ref b1), .val (.int (0 : Int32)), .unset] [(.int (2 : Int32)), (.int (0 : Int32))])) _
    refine XS.icmpNo X3.here hx rfl (hb hby d5_17) rfl (by decide) ?_
    show Steps p.tables e below (T3.setTop (mkF m 20 #[.val (.ref a1), .val (.int (0 : Int32)), .val (.int (2 : Int32)), .val (.ref b1), .val (.int (0 : Int32)), .unset] [])) _
    refine XS.aloadN X3.here hx rfl (hb hby d5_20) rfl rfl ?_
    show Steps p.tables e below (T3.setTop (mkF m 21 #[.val (.ref a1), .val (.int (0 : Int32)), .val (.int (2 : Int32)), .val (.ref b1), .val (.int (0 : Int32)), .unset] [(.ref a1)])) _
    refine XS.iloadN X3.here hx rfl (hb hby d5_21) rfl ?_
    show Steps p.tables e below (T3.setTop (mkF m 22 #[.val (.ref a1), .val (.int (0 : Int32)), .val (.int (2 : Int32)), .val (.ref b1), .val (.int (0 : Int32)), .unset] [(.int (0 : Int32)), (.ref a1)])) _
    refine XS.iloadN X3.here hx rfl (hb hby d5_22) rfl ?_
    show Steps p.tables e below (T3.setTop (mkF m 23 #[.val (.ref a1), .val (.int (0 : Int32)), .val (.int (2 : Int32)), .val (.ref b1), .val (.int (0 : Int32)), .unset] [(.int (2 : Int32)), (.int (0 : Int32)), (.ref a1)])) _
    refine st6 _ ?_
    show Steps p.tables e below (T6.setTop (mkF m 26 #[.val (.ref a1), .val (.int (0 : Int32)), .val (.int (2 : Int32)), .val (.ref b1), .val (.int (0 : Int32)), .unset] [(.ref bb_6)])) _
    refine XS.astore X6.here hx rfl (hb hby d5_26) rfl rfl (l' := #[.val (.ref a1), .val (.int (0 : Int32)), .val (.int (2 : Int32)), .val (.ref b1), .val (.int (0 : Int32)), .val (.ref bb_6)]) rfl ?_
    show Steps p.tables e below (T6.setTop (mkF m 28 #[.val (.ref a1), .val (.int (0 : Int32)), .val (.int (2 : Int32)), .val (.ref b1), .val (.int (0 : Int32)), .val (.ref bb_6)] [])) _
    refine XS.aload X6.here hx rfl (hb hby d5_28) rfl rfl ?_
    show Steps p.tables e below (T6.setTop (mkF m 30 #[.val (.ref a1), .val (.int (0 : Int32)), .val (.int (2 : Int32)), .val (.ref b1), .val (.int (0 : Int32)), .val (.ref bb_6)] [(.ref bb_6)])) _
    refine XS.iload X6.here hx rfl (hb hby d5_30) rfl ?_
    show Steps p.tables e below (T6.setTop (mkF m 32 #[.val (.ref a1), .val (.int (0 : Int32)), .val (.int (2 : Int32)), .val (.ref b1), .val (.int (0 : Int32)), .val (.ref bb_6)] [(.int (0 : Int32)), (.ref bb_6)])) _
    refine st9 _ ?_
    show Steps p.tables e below (T9.setTop (mkF m 35 #[.val (.ref a1), .val (.int (0 : Int32)), .val (.int (2 : Int32)), .val (.ref b1), .val (.int (0 : Int32)), .val (.ref bb_6)] [(.int c0)])) _
    refine XS.sipush X9.here hx rfl (hb hby d5_35) ?_
    show Steps p.tables e below (T9.setTop (mkF m 38 #[.val (.ref a1), .val (.int (0 : Int32)), .val (.int (2 : Int32)), .val (.ref b1), .val (.int (0 : Int32)), .val (.ref bb_6)] [(.int (255 : Int32)), (.int c0)])) _
    refine XS.icmpYes X9.here hx rfl (pc0 := 38) (pc' := 54) rfl (hb hby d5_38) rfl (tlt hk0).2.2.1 (by decide) (by decide) ?_
    show Steps p.tables e below (T9.setTop (mkF m 54 #[.val (.ref a1), .val (.int (0 : Int32)), .val (.int (2 : Int32)), .val (.ref b1), .val (.int (0 : Int32)), .val (.ref bb_6)] [])) _
    refine XS.aload X9.here hx rfl (hb hby d5_54) rfl rfl ?_
    show Steps p.tables e below (T9.setTop (mkF m 56 #[.val (.ref a1), .val (.int (0 : Int32)), .val (.int (2 : Int32)), .val (.ref b1), .val (.int (0 : Int32)), .val (.ref bb_6)] [(.ref bb_6)])) _
    exact retOut X9 hx Bd.returns rfl (Or.inr (Or.inr (Or.inr (Or.inr ⟨rfl, rfl, rfl⟩)))) (hb hby d5_56) hr
  · show Qcm2u Z a1 kc c0 c1 h0 n0 _ T9.heap _
    rw [eh9]
    exact ⟨bb_6, k0_6, N9, K8, sz_bb_6, p6_1, rfl⟩
theorem ef_cm2v (m : MethodId) (a1 : Addr) : entryFrame m #[(.ref a1), (.int (0 : Int32)), (.int (2 : Int32))] 6 = mkF m 0 #[.val (.ref a1), .val (.int (0 : Int32)), .val (.int (2 : Int32)), .unset, .unset, .unset] [] := by first | (simp [entryFrame, mkF, argsToLocals, Value.category]; done) | rfl
def Qcm2v (Z : State) (a1 : Addr) (kc : ClassId) (c0 : Int32) (c1 : Int32) (h0 : Heap) (n0 : Nat) (v : Option Value) (h : Heap) (L : List Loc) : Prop := ∃ (bb : Addr) (k0 : ClassId), Fr n0 L ∧ Keep h0 h [] ∧ h0.size ≤ bb ∧ Arv Z h bb k0 .byte (4 : Int32) [(.int (((c0 >>> ((0 : Int32) &&& 31)).toInt8.toInt32).toInt8.toInt32)), (.int (((c0 >>> ((8 : Int32) &&& 31)).toInt8.toInt32).toInt8.toInt32)), (.int (((c1 >>> ((0 : Int32) &&& 31)).toInt8.toInt32).toInt8.toInt32)), (.int (((c1 >>> ((8 : Int32) &&& 31)).toInt8.toInt32).toInt8.toInt32))] (.int (0 : Int32)) ∧ (v = some (.ref bb))
set_option maxRecDepth 65536 in
set_option maxHeartbeats 40000000 in
theorem rmCm2v (l : Launch) (Z : State) (a0 : Array Value) (hw : ∀ d ∈ tables_1, d.before a0 Z = true) (ws : List Jvm.Cond) (a1 : Addr) (kc : ClassId) (c0 : Int32) (c1 : Int32) (h0 : Heap) (n0 : Nat) (Z0 : n0 ≤ h0.size) (hSa : Sta Z Z.heap "java/lang/StringUTF16" "$assertionsDisabled" "Z" (.int (1 : Int32))) (hSh : Sta Z Z.heap "java/lang/StringUTF16" "HI_BYTE_SHIFT" "I" (.int (0 : Int32))) (hSl : Sta Z Z.heap "java/lang/StringUTF16" "LO_BYTE_SHIFT" "I" (.int (8 : Int32))) (hO : Old Z n0 h0) (hVc : Arv Z h0 a1 kc .char (2 : Int32) [(.int c0), (.int c1)] (.int (0 : Int32))) (hk0 : ¬ ((255 : Int32) < c0)) (hk1 : (255 : Int32) < c1) (hH0 : own_H c0) (hH1 : own_H c1) :
    MetFree l (⟨"java/lang/StringUTF16", "compress", "([CII)[B"⟩ : MethodName) (head1 (Jvm.Cond.code (⟨"java/lang/StringUTF16", "compress", "([CII)[B"⟩ : MethodName) jdk_52_method_16_code 6 (some (.array .byte)) :: ws) ({ frames := 3, cells := 2, slots := 6, locals := 40 } : Room)) (fun a U => a = #[(.ref a1), (.int (0 : Int32)), (.int (2 : Int32))] ∧ Z.Warmed39 U.vm ∧ U.heap = h0) (fun _ _ _ _ _ => True) (fun _ U o U' => ∃ v L, o = .returned v ∧ Qcm2v Z a1 kc c0 c1 h0 n0 v U'.heap L ∧ FrameEnd U o U' L ({ frames := 3, cells := 2, slots := 6, locals := 40 } : Room).cells ({ frames := 3, cells := 2, slots := 6, locals := 40 } : Room).slots) := by
  refine MetFree.of_bodySF (plainFor_of_name own_pn_6) hisR ?_
  intro p e s m args below meth c s₁ Bd hml0 hP hK
  obtain ⟨rfl, hZ, hh⟩ := hP
  have hx := Bd.exec
  have hby := Bd.bytes
  have hml : c.maxLocals = 6 := hml0
  have hown : s.vm.findClass "java/lang/StringUTF16" = some m.cls := findClass_of_methodNamed Bd.named
  have hnm := (name_of_methodNamed Bd.named Bd.method).1
  have X0 : Stand p l e ({ frames := 3, cells := 2, slots := 6, locals := 40 } : Room) s m #[(.ref a1), (.int (0 : Int32)), (.int (2 : Int32))] below meth c s₁ [] 0 0 := Stand.of_body Bd
  have e0 : s₁.heap = h0 := by rw [← hh, Bd.state]; rfl
  have N0 := Fr.nil n0
  have pre0 : ∀ t, Steps p.tables e below (s₁.setTop (mkF m 0 #[.val (.ref a1), .val (.int (0 : Int32)), .val (.int (2 : Int32)), .unset, .unset, .unset] [])) t → Steps p.tables e below (s₁.setTop (entryFrame m #[(.ref a1), (.int (0 : Int32)), (.int (2 : Int32))] 6)) t := fun t k => castTop (ef_cm2v m a1) k
  obtain ⟨T1, h1, k1, X1, e1, E1, A1, st1⟩ := newP X0 hx hZ (own_k hw 24 rfl) e0 (g := (mkF m 1 #[.val (.ref a1), .val (.int (0 : Int32)), .val (.int (2 : Int32)), .unset, .unset, .unset] [(.int (2 : Int32))])) rfl (hb hby d5_1) rfl (by decide) (cap := 2) (by decide) (by decide) (by decide) (by decide)
  obtain ⟨b1, g1⟩ : ∃ z, z = h0.size := ⟨_, rfl⟩
  rw [← g1] at A1 st1
  have g_b1 : n0 ≤ b1 := Nat.le_trans Z0 (Nat.le_of_eq g1.symm)
  have sz_b1 : h0.size ≤ b1 := Nat.le_trans (Keep.refl h0 []).1 (Nat.le_of_eq g1.symm)
  have K2 : Keep h0 h1 [] := (Keep.refl h0 []).ext E1
  have V1 : Arv Z h1 b1 k1 .byte (2 : Int32) [(.int (0 : Int32)), (.int (0 : Int32))] (.int (0 : Int32)) := (Arv.new A1 (by decide)).pad (pad_rep [] (.int (0 : Int32)) 2)
  have f4 : Arv Z h1 a1 kc .char (2 : Int32) [(.int c0), (.int c1)] (.int (0 : Int32)) := (hVc.ext E1)
  have f5 : n0 ≤ h1.size := (Nat.le_trans Z0 E1.1)
  obtain ⟨_, _, ⟨T3, L3, k3, n3⟩, -, X3, ⟨Lc3, hQ3, l3, y3, z3⟩, st3⟩ := Jvm.LawKit.callS X1 hx (y := (⟨"java/lang/StringUTF16", "compress", "([CI[BII)I"⟩ : MethodName)) hown (mvT hZ (own_k hw 25 rfl)) (mvT hZ (own_k hw 26 rfl)) (mvT hZ (own_k hw 22 rfl)) (mvT hZ (own_k hw 27 rfl)) (by decide) (backOf (W := 0) (rmCp2v l Z a0 hw [] a1 kc b1 k1 c0 c1 h1 n0 f5 f4 V1 g_b1 (Nat.ne_of_lt (Nat.lt_of_lt_of_le hVc.lt (Nat.le_of_eq g1.symm))) (hk0) (hk1)) hZ (own_k hw 27 rfl) (own_k hw 22 rfl) (by decide) (by decide)) (g := (mkF m 9 #[.val (.ref a1), .val (.int (0 : Int32)), .val (.int (2 : Int32)), .val (.ref b1), .unset, .unset] [(.int (2 : Int32)), (.int (0 : Int32)), (.ref b1), (.int (0 : Int32)), (.ref a1)])) rfl (by rw [hml]; rfl) (argsL := [(.ref a1), (.int (0 : Int32)), (.ref b1), (.int (0 : Int32)), (.int (2 : Int32))]) (rest := []) (lenOf own_pd_9 rfl) rfl (by show 2 * 0 + _ ≤ _; exact Nat.le_of_eq rfl) (hb hby d5_9) (fun _ _ => ⟨rfl, e1, (by decide : 1 + 0 ≤ _), (by decide : 2 + 0 ≤ _)⟩)
  dsimp only [Pt.U, Pt.locs, Pt.cells, Pt.slots] at X3 l3 y3 z3 st3 hQ3
  subst l3
  subst y3 z3
  obtain ⟨Nq3, Kq3, p3_0, hv3⟩ := hQ3
  have N3 := Fr.app N0 Nq3
  have K6 : Keep h0 T3.heap [] := K2.trans Kq3 (allS (Or.inr sz_b1) all0)
  subst hv3
  have f8 : Old Z n0 T3.heap := ((hO.ext E1).keep Kq3 (allS g_b1 all0))
  have f9 : Arv Z T3.heap a1 kc .char (2 : Int32) [(.int c0), (.int c1)] (.int (0 : Int32)) := (f4.keep Kq3 (ninS (Nat.ne_of_lt (Nat.lt_of_lt_of_le hVc.lt (Nat.le_of_eq g1.symm))) nin0))
  have f10 : n0 ≤ T3.heap.size := (Nat.le_trans f5 Kq3.1)
  obtain ⟨_, _, ⟨T7, L7, k7, n7⟩, -, X7, ⟨Lc7, hQ7, l7, y7, z7⟩, st7⟩ := Jvm.LawKit.callS X3 hx (y := (⟨"java/lang/StringUTF16", "toBytes", "([CII)[B"⟩ : MethodName)) hown (mvT hZ (own_k hw 64 rfl)) (mvT hZ (own_k hw 65 rfl)) (mvT hZ (own_k hw 22 rfl)) (mvT hZ (own_k hw 66 rfl)) (by decide) (backOf (W := 0) (rmTb2 l Z a0 hw [] a1 kc c0 c1 T3.heap n0 f10 hSa hSh hSl f8 f9) hZ (own_k hw 66 rfl) (own_k hw 22 rfl) (by decide) (by decide)) (g := (mkF m 23 #[.val (.ref a1), .val (.int (0 : Int32)), .val (.int (2 : Int32)), .val (.ref b1), .val (.int (1 : Int32)), .unset] [(.int (2 : Int32)), (.int (0 : Int32)), (.ref a1)])) rfl (by rw [hml]; rfl) (argsL := [(.ref a1), (.int (0 : Int32)), (.int (2 : Int32))]) (rest := []) (lenOf own_pd_10 rfl) rfl (by show 2 * 0 + _ ≤ _; exact Nat.le_of_eq rfl) (hb hby d5_23) (fun _ _ => ⟨rfl, rfl, (by decide : 1 + 1 ≤ _), (by decide : 2 + 4 ≤ _)⟩)
  dsimp only [Pt.U, Pt.locs, Pt.cells, Pt.slots] at X7 l7 y7 z7 st7 hQ7
  subst l7
  subst y7 z7
  obtain ⟨bb_7, k0_7, Nq7, Kq7, p7_0, p7_1, hv7⟩ := hQ7
  have N7 := Fr.app N3 Nq7
  have g_bb_7 : n0 ≤ bb_7 := Nat.le_trans f10 p7_0
  have sz_bb_7 : h0.size ≤ bb_7 := Nat.le_trans K6.1 p7_0
  have K11 : Keep h0 T7.heap [] := K6.trans Kq7 all0
  subst hv7
  have f13 : Old Z n0 T7.heap := (f8.keep Kq7 all0)
  have f14 : n0 ≤ T7.heap.size := (Nat.le_trans f10 Kq7.1)
  obtain ⟨_, _, ⟨T12, L12, k12, n12⟩, -, X12, ⟨Lc12, hQ12, l12, y12, z12⟩, st12⟩ := Jvm.LawKit.callS X7 hx (y := (⟨"java/lang/StringUTF16", "getChar", "([BI)C"⟩ : MethodName)) hown (mvT hZ (own_k hw 80 rfl)) (mvT hZ (own_k hw 81 rfl)) (mvT hZ (own_k hw 22 rfl)) (mvT hZ (own_k hw 82 rfl)) (by decide) (backOf (W := 0) (rmGc41 l Z a0 hw [] bb_7 k0_7 (((c0 >>> ((0 : Int32) &&& 31)).toInt8.toInt32).toInt8.toInt32) (((c0 >>> ((8 : Int32) &&& 31)).toInt8.toInt32).toInt8.toInt32) (((c1 >>> ((0 : Int32) &&& 31)).toInt8.toInt32).toInt8.toInt32) (((c1 >>> ((8 : Int32) &&& 31)).toInt8.toInt32).toInt8.toInt32) c1 T7.heap n0 f14 hSa hSh hSl f13 p7_1 ((own_dec16 hH1))) hZ (own_k hw 82 rfl) (own_k hw 22 rfl) (by decide) (by decide)) (g := (mkF m 32 #[.val (.ref a1), .val (.int (0 : Int32)), .val (.int (2 : Int32)), .val (.ref b1), .val (.int (1 : Int32)), .val (.ref bb_7)] [(.int (1 : Int32)), (.ref bb_7)])) rfl (by rw [hml]; rfl) (argsL := [(.ref bb_7), (.int (1 : Int32))]) (rest := []) (lenOf own_pd_5 rfl) rfl (by show 2 * 0 + _ ≤ _; exact Nat.le_of_eq rfl) (hb hby d5_32) (fun _ _ => ⟨rfl, rfl, (by decide : 2 + 0 ≤ _), (by decide : 6 + 0 ≤ _)⟩)
  dsimp only [Pt.U, Pt.locs, Pt.cells, Pt.slots] at X12 l12 y12 z12 st12 hQ12
  subst l12
  subst y12 z12
  obtain ⟨Nq12, eh12, hv12⟩ := hQ12
  have N12 := Fr.app N7 Nq12
  subst hv12
  obtain ⟨fs, hr, hrun, hended, hW, hsame⟩ := X12.leave (v := (some (.ref bb_7))) (fun h => by rw [Bd.returns] at h; cases h)
  refine ⟨_, _, pre0 _ ?_, hrun, hended, _, _, rfl, ?_, ⟨_, rfl⟩, hW, hsame.mono (by decide) (by decide)⟩
  · show Steps p.tables e below (s₁.setTop (mkF m 0 #[.val (.ref a1), .val (.int (0 : Int32)), .val (.int (2 : Int32)), .unset, .unset, .unset] [])) _
    refine XS.iloadN X0.here hx rfl (hb hby d5_0) rfl ?_
    show Steps p.tables e below (s₁.setTop (mkF m 1 #[.val (.ref a1), .val (.int (0 : Int32)), .val (.int (2 : Int32)), .unset, .unset, .unset] [(.int (2 : Int32))])) _
    refine st1 _ ?_
    show Steps p.tables e below (T1.setTop (mkF m 3 #[.val (.ref a1), .val (.int (0 : Int32)), .val (.int (2 : Int32)), .unset, .unset, .unset] [(.ref b1)])) _
    refine XS.astoreN X1.here hx rfl (hb hby d5_3) rfl rfl (l' := #[.val (.ref a1), .val (.int (0 : Int32)), .val (.int (2 : Int32)), .val (.ref b1), .unset, .unset]) rfl ?_
    show Steps p.tables e below (T1.setTop (mkF m 4 #[.val (.ref a1), .val (.int (0 : Int32)), .val (.int (2 : Int32)), .val (.ref b1), .unset, .unset] [])) _
    refine XS.aloadN X1.here hx rfl (hb hby d5_4) rfl rfl ?_
    show Steps p.tables e below (T1.setTop (mkF m 5 #[.val (.ref a1), .val (.int (0 : Int32)), .val (.int (2 : Int32)), .val (.ref b1), .unset, .unset] [(.ref a1)])) _
    refine XS.iloadN X1.here hx rfl (hb hby d5_5) rfl ?_
    show Steps p.tables e below (T1.setTop (mkF m 6 #[.val (.ref a1), .val (.int (0 : Int32)), .val (.int (2 : Int32)), .val (.ref b1), .unset, .unset] [(.int (0 : Int32)), (.ref a1)])) _
    refine XS.aloadN X1.here hx rfl (hb hby d5_6) rfl rfl ?_
    show Steps p.tables e below (T1.setTop (mkF m 7 #[.val (.ref a1), .val (.int (0 : Int32)), .val (.int (2 : Int32)), .val (.ref b1), .unset, .unset] [(.ref b1), (.int (0 : Int32)), (.ref a1)])) _
    refine XS.iconst X1.here hx rfl (hb hby d5_7) ?_
    show Steps p.tables e below (T1.setTop (mkF m 8 #[.val (.ref a1), .val (.int (0 : Int32)), .val (.int (2 : Int32)), .val (.ref b1), .unset, .unset] [(.int (0 : Int32)), (.ref b1), (.int (0 : Int32)), (.ref a1)])) _
    refine XS.iloadN X1.here hx rfl (hb hby d5_8) rfl ?_
    show Steps p.tables e below (T1.setTop (mkF m 9 #[.val (.ref a1), .val (.int (0 : Int32)), .val (.int (2 : Int32)), .val (.ref b1), .unset, .unset] [(.int (2 : Int32)), (.int (0 : Int32)), (.ref b1), (.int (0 : Int32)), (.ref a1)])) _
    refine st3 _ ?_
    show Steps p.tables e below (T3.setTop (mkF m 12 #[.val (.ref a1), .val (.int (0 : Int32)), .val (.int (2 : Int32)), .val (.ref b1), .unset, .unset] [(.int (1 : Int32))])) _
    refine XS.istore X3.here hx rfl (hb hby d5_12) rfl (l' := #[.val (.ref a1), .val (.int (0 : Int32)), .val (.int (2 : Int32)), .val (.ref b1), .val (.int (1 : Int32)), .unset]) rfl ?_
    show Steps p.tables e below (T3.setTop (mkF m 14 #[.val (.ref a1), .val (.int (0 : Int32)), .val (.int (2 : Int32)), .val (.ref b1), .val (.int (1 : Int32)), .unset] [])) _
    refine XS.iload X3.here hx rfl (hb hby d5_14) rfl ?_
    show Steps p.tables e below (T3.setTop (mkF m 16 #[.val (.ref a1), .val (.int (0 : Int32)), .val (.int (2 : Int32)), .val (.ref b1), .val (.int (1 : Int32)), .unset] [(.int (1 : Int32))])) _
    refine XS.iloadN X3.here hx rfl (hb hby d5_16) rfl ?_
    show Steps p.tables e below (T3.setTop (mkF m 17 #[.val (.ref a1), .val (.int (0 : Int32)), .val (.int (2 : Int32)), .val (.ref b1), .val (.int (1 : Int32)), .unset] [(.int (2 : Int32)), (.int (1 : Int32))])) _
    refine XS.icmpNo X3.here hx rfl (hb hby d5_17) rfl (by decide) ?_
    show Steps p.tables e below (T3.setTop (mkF m 20 #[.val (.ref a1), .val (.int (0 : Int32)), .val (.int (2 : Int32)), .val (.ref b1), .val (.int (1 : Int32)), .unset] [])) _
    refine XS.aloadN X3.here hx rfl (hb hby d5_20) rfl rfl ?_
    show Steps p.tables e below (T3.setTop (mkF m 21 #[.val (.ref a1), .val (.int (0 : Int32)), .val (.int (2 : Int32)), .val (.ref b1), .val (.int (1 : Int32)), .unset] [(.ref a1)])) _
    refine XS.iloadN X3.here hx rfl (hb hby d5_21) rfl ?_
    show Steps p.tables e below (T3.setTop (mkF m 22 #[.val (.ref a1), .val (.int (0 : Int32)), .val (.int (2 : Int32)), .val (.ref b1), .val (.int (1 : Int32)), .unset] [(.int (0 : Int32)), (.ref a1)])) _
    refine XS.iloadN X3.here hx rfl (hb hby d5_22) rfl ?_
    show Steps p.tables e below (T3.setTop (mkF m 23 #[.val (.ref a1), .val (.int (0 : Int32)), .val (.int (2 : Int32)), .val (.ref b1), .val (.int (1 : Int32)), .unset] [(.int (2 : Int32)), (.int (0 : Int32)), (.ref a1)])) _
    refine st7 _ ?_
    show Steps p.tables e below (T7.setTop (mkF m 26 #[.val (.ref a1), .val (.int (0 : Int32)), .val (.int (2 : Int32)), .val (.ref b1), .val (.int (1 : Int32)), .unset] [(.ref bb_7)])) _
    refine XS.astore X7.here hx rfl (hb hby d5_26) rfl rfl (l' := #[.val (.ref a1), .val (.int (0 : Int32)), .val (.int (2 : Int32)), .val (.ref b1), .val (.int (1 : Int32)), .val (.ref bb_7)]) rfl ?_
    show Steps p.tables e below (T7.setTop (mkF m 28 #[.val (.ref a1), .val (.int (0 : Int32)), .val (.int (2 : Int32)), .val (.ref b1), .val (.int (1 : Int32)), .val (.ref bb_7)] [])) _
    refine XS.aload X7.here hx rfl (hb hby d5_28) rfl rfl ?_
    show Steps p.tables e below (T7.setTop (mkF m 30 #[.val (.ref a1), .val (.int (0 : Int32)), .val (.int (2 : Int32)), .val (.ref b1), .val (.int (1 : Int32)), .val (.ref bb_7)] [(.ref bb_7)])) _
    refine XS.iload X7.here hx rfl (hb hby d5_30) rfl ?_
    show Steps p.tables e below (T7.setTop (mkF m 32 #[.val (.ref a1), .val (.int (0 : Int32)), .val (.int (2 : Int32)), .val (.ref b1), .val (.int (1 : Int32)), .val (.ref bb_7)] [(.int (1 : Int32)), (.ref bb_7)])) _
    refine st12 _ ?_
    show Steps p.tables e below (T12.setTop (mkF m 35 #[.val (.ref a1), .val (.int (0 : Int32)), .val (.int (2 : Int32)), .val (.ref b1), .val (.int (1 : Int32)), .val (.ref bb_7)] [(.int c1)])) _
    refine XS.sipush X12.here hx rfl (hb hby d5_35) ?_
    show Steps p.tables e below (T12.setTop (mkF m 38 #[.val (.ref a1), .val (.int (0 : Int32)), .val (.int (2 : Int32)), .val (.ref b1), .val (.int (1 : Int32)), .val (.ref bb_7)] [(.int (255 : Int32)), (.int c1)])) _
    refine XS.icmpYes X12.here hx rfl (pc0 := 38) (pc' := 54) rfl (hb hby d5_38) rfl (tlt hk1).2.2.1 (by decide) (by decide) ?_
    show Steps p.tables e below (T12.setTop (mkF m 54 #[.val (.ref a1), .val (.int (0 : Int32)), .val (.int (2 : Int32)), .val (.ref b1), .val (.int (1 : Int32)), .val (.ref bb_7)] [])) _
    refine XS.aload X12.here hx rfl (hb hby d5_54) rfl rfl ?_
    show Steps p.tables e below (T12.setTop (mkF m 56 #[.val (.ref a1), .val (.int (0 : Int32)), .val (.int (2 : Int32)), .val (.ref b1), .val (.int (1 : Int32)), .val (.ref bb_7)] [(.ref bb_7)])) _
    exact retOut X12 hx Bd.returns rfl (Or.inr (Or.inr (Or.inr (Or.inr ⟨rfl, rfl, rfl⟩)))) (hb hby d5_56) hr
  · show Qcm2v Z a1 kc c0 c1 h0 n0 _ T12.heap _
    rw [eh12]
    exact ⟨bb_7, k0_7, N12, K11, sz_bb_7, p7_1, rfl⟩
theorem d7_0 : decode jdk_52_method_15_code 0 = .ok (.iload_n 1, 1) := by decide +kernel
theorem d7_1 : decode jdk_52_method_15_code 1 = .ok (.aload_n 0, 1) := by decide +kernel
theorem d7_2 : decode jdk_52_method_15_code 2 = .ok (.arraylength, 1) := by decide +kernel
theorem d7_3 : decode jdk_52_method_15_code 3 = .ok (.isub, 1) := by decide +kernel
theorem d7_4 : decode jdk_52_method_15_code 4 = .ok (.bipush 31, 2) := by decide +kernel
theorem d7_6 : decode jdk_52_method_15_code 6 = .ok (.iushr, 1) := by decide +kernel
theorem d7_7 : decode jdk_52_method_15_code 7 = .ok (.i2b, 1) := by decide +kernel
theorem d7_8 : decode jdk_52_method_15_code 8 = .ok (.ireturn, 1) := by decide +kernel
theorem ef_cf11 (m : MethodId) (a1 : Addr) : entryFrame m #[(.ref a1), (.int (1 : Int32))] 2 = mkF m 0 #[.val (.ref a1), .val (.int (1 : Int32))] [] := by first | (simp [entryFrame, mkF, argsToLocals, Value.category]; done) | rfl
def Qcf11 (Z : State) (a1 : Addr) (kk : ClassId) (b0 : Int32) (h0 : Heap) (n0 : Nat) (v : Option Value) (h : Heap) (L : List Loc) : Prop := Fr n0 L ∧ h = h0 ∧ (v = some (.int (0 : Int32)))
set_option maxRecDepth 65536 in
set_option maxHeartbeats 40000000 in
theorem rmCf11 (l : Launch) (Z : State) (a0 : Array Value) (hw : ∀ d ∈ tables_1, d.before a0 Z = true) (ws : List Jvm.Cond) (a1 : Addr) (kk : ClassId) (b0 : Int32) (h0 : Heap) (n0 : Nat) (Z0 : n0 ≤ h0.size) (hV : Arv Z h0 a1 kk .byte (1 : Int32) [(.int b0)] (.int (0 : Int32))) :
    MetFree l (⟨"java/lang/StringUTF16", "coderFromArrayLen", "([BI)B"⟩ : MethodName) (head1 (Jvm.Cond.code (⟨"java/lang/StringUTF16", "coderFromArrayLen", "([BI)B"⟩ : MethodName) jdk_52_method_15_code 2 (some .byte) :: ws) ({ frames := 0, cells := 0, slots := 0, locals := 0 } : Room)) (fun a U => a = #[(.ref a1), (.int (1 : Int32))] ∧ Z.Warmed39 U.vm ∧ U.heap = h0) (fun _ _ _ _ _ => True) (fun _ U o U' => ∃ v L, o = .returned v ∧ Qcf11 Z a1 kk b0 h0 n0 v U'.heap L ∧ FrameEnd U o U' L ({ frames := 0, cells := 0, slots := 0, locals := 0 } : Room).cells ({ frames := 0, cells := 0, slots := 0, locals := 0 } : Room).slots) := by
  refine MetFree.of_bodySF (plainFor_of_name own_pn_6) hisR ?_
  intro p e s m args below meth c s₁ Bd hml0 hP hK
  obtain ⟨rfl, hZ, hh⟩ := hP
  have hx := Bd.exec
  have hby := Bd.bytes
  have hml : c.maxLocals = 2 := hml0
  have hown : s.vm.findClass "java/lang/StringUTF16" = some m.cls := findClass_of_methodNamed Bd.named
  have hnm := (name_of_methodNamed Bd.named Bd.method).1
  have X0 : Stand p l e ({ frames := 0, cells := 0, slots := 0, locals := 0 } : Room) s m #[(.ref a1), (.int (1 : Int32))] below meth c s₁ [] 0 0 := Stand.of_body Bd
  have e0 : s₁.heap = h0 := by rw [← hh, Bd.state]; rfl
  have N0 := Fr.nil n0
  have pre0 : ∀ t, Steps p.tables e below (s₁.setTop (mkF m 0 #[.val (.ref a1), .val (.int (1 : Int32))] [])) t → Steps p.tables e below (s₁.setTop (entryFrame m #[(.ref a1), (.int (1 : Int32))] 2)) t := fun t k => castTop (ef_cf11 m a1) k
  obtain ⟨cl1, Ar1, -, S1, M1, -, -⟩ := id hV
  obtain ⟨fs, hr, hrun, hended, hW, hsame⟩ := X0.leave (v := (some (.int (0 : Int32)))) (fun h => by rw [Bd.returns] at h; cases h)
  refine ⟨_, _, pre0 _ ?_, hrun, hended, _, _, rfl, ?_, ⟨_, rfl⟩, hW, hsame.mono (by decide) (by decide)⟩
  · show Steps p.tables e below (s₁.setTop (mkF m 0 #[.val (.ref a1), .val (.int (1 : Int32))] [])) _
    refine XS.iloadN X0.here hx rfl (hb hby d7_0) rfl ?_
    show Steps p.tables e below (s₁.setTop (mkF m 1 #[.val (.ref a1), .val (.int (1 : Int32))] [(.int (1 : Int32))])) _
    refine XS.aloadN X0.here hx rfl (hb hby d7_1) rfl rfl ?_
    show Steps p.tables e below (s₁.setTop (mkF m 2 #[.val (.ref a1), .val (.int (1 : Int32))] [(.ref a1), (.int (1 : Int32))])) _
    refine X0.arraylength hx (by rw [e0]; exact Ar1.1) (State.isArrayOf_alike hZ.alike Ar1.2.1) (g := (mkF m 2 #[.val (.ref a1), .val (.int (1 : Int32))] [(.ref a1), (.int (1 : Int32))])) rfl rfl (hb hby d7_2) _ ?_
    rw [len_of S1 M1]
    show Steps p.tables e below (s₁.setTop (mkF m 3 #[.val (.ref a1), .val (.int (1 : Int32))] [(.int (1 : Int32)), (.int (1 : Int32))])) _
    refine XS.isub X0.here hx rfl (hb hby d7_3) rfl ?_
    show Steps p.tables e below (s₁.setTop (mkF m 4 #[.val (.ref a1), .val (.int (1 : Int32))] [(.int (0 : Int32))])) _
    refine XS.bipush X0.here hx rfl (hb hby d7_4) ?_
    show Steps p.tables e below (s₁.setTop (mkF m 6 #[.val (.ref a1), .val (.int (1 : Int32))] [(.int (31 : Int32)), (.int (0 : Int32))])) _
    refine XS.iushr X0.here hx rfl (hb hby d7_6) rfl ?_
    show Steps p.tables e below (s₁.setTop (mkF m 7 #[.val (.ref a1), .val (.int (1 : Int32))] [(.int (0 : Int32))])) _
    refine XS.i2b X0.here hx rfl (hb hby d7_7) rfl ?_
    show Steps p.tables e below (s₁.setTop (mkF m 8 #[.val (.ref a1), .val (.int (1 : Int32))] [(.int (0 : Int32))])) _
    exact retN X0 hx (t := .byte) Bd.returns (by simp) (hb hby d7_8) hr
  · show Qcf11 Z a1 kk b0 h0 n0 _ s₁.heap _
    rw [e0]
    exact ⟨N0, rfl, rfl⟩
theorem ef_cf21 (m : MethodId) (a1 : Addr) : entryFrame m #[(.ref a1), (.int (1 : Int32))] 2 = mkF m 0 #[.val (.ref a1), .val (.int (1 : Int32))] [] := by first | (simp [entryFrame, mkF, argsToLocals, Value.category]; done) | rfl
def Qcf21 (Z : State) (a1 : Addr) (kk : ClassId) (b0 : Int32) (b1 : Int32) (h0 : Heap) (n0 : Nat) (v : Option Value) (h : Heap) (L : List Loc) : Prop := Fr n0 L ∧ h = h0 ∧ (v = some (.int (1 : Int32)))
set_option maxRecDepth 65536 in
set_option maxHeartbeats 40000000 in
theorem rmCf21 (l : Launch) (Z : State) (a0 : Array Value) (hw : ∀ d ∈ tables_1, d.before a0 Z = true) (ws : List Jvm.Cond) (a1 : Addr) (kk : ClassId) (b0 : Int32) (b1 : Int32) (h0 : Heap) (n0 : Nat) (Z0 : n0 ≤ h0.size) (hV : Arv Z h0 a1 kk .byte (2 : Int32) [(.int b0), (.int b1)] (.int (0 : Int32))) :
    MetFree l (⟨"java/lang/StringUTF16", "coderFromArrayLen", "([BI)B"⟩ : MethodName) (head1 (Jvm.Cond.code (⟨"java/lang/StringUTF16", "coderFromArrayLen", "([BI)B"⟩ : MethodName) jdk_52_method_15_code 2 (some .byte) :: ws) ({ frames := 0, cells := 0, slots := 0, locals := 0 } : Room)) (fun a U => a = #[(.ref a1), (.int (1 : Int32))] ∧ Z.Warmed39 U.vm ∧ U.heap = h0) (fun _ _ _ _ _ => True) (fun _ U o U' => ∃ v L, o = .returned v ∧ Qcf21 Z a1 kk b0 b1 h0 n0 v U'.heap L ∧ FrameEnd U o U' L ({ frames := 0, cells := 0, slots := 0, locals := 0 } : Room).cells ({ frames := 0, cells := 0, slots := 0, locals := 0 } : Room).slots) := by
  refine MetFree.of_bodySF (plainFor_of_name own_pn_6) hisR ?_
  intro p e s m args below meth c s₁ Bd hml0 hP hK
  obtain ⟨rfl, hZ, hh⟩ := hP
  have hx := Bd.exec
  have hby := Bd.bytes
  have hml : c.maxLocals = 2 := hml0
  have hown : s.vm.findClass "java/lang/StringUTF16" = some m.cls := findClass_of_methodNamed Bd.named
  have hnm := (name_of_methodNamed Bd.named Bd.method).1
  have X0 : Stand p l e ({ frames := 0, cells := 0, slots := 0, locals := 0 } : Room) s m #[(.ref a1), (.int (1 : Int32))] below meth c s₁ [] 0 0 := Stand.of_body Bd
  have e0 : s₁.heap = h0 := by rw [← hh, Bd.state]; rfl
  have N0 := Fr.nil n0
  have pre0 : ∀ t, Steps p.tables e below (s₁.setTop (mkF m 0 #[.val (.ref a1), .val (.int (1 : Int32))] [])) t → Steps p.tables e below (s₁.setTop (entryFrame m #[(.ref a1), (.int (1 : Int32))] 2)) t := fun t k => castTop (ef_cf21 m a1) k
  obtain ⟨cl1, Ar1, -, S1, M1, -, -⟩ := id hV
  obtain ⟨fs, hr, hrun, hended, hW, hsame⟩ := X0.leave (v := (some (.int (1 : Int32)))) (fun h => by rw [Bd.returns] at h; cases h)
  refine ⟨_, _, pre0 _ ?_, hrun, hended, _, _, rfl, ?_, ⟨_, rfl⟩, hW, hsame.mono (by decide) (by decide)⟩
  · show Steps p.tables e below (s₁.setTop (mkF m 0 #[.val (.ref a1), .val (.int (1 : Int32))] [])) _
    refine XS.iloadN X0.here hx rfl (hb hby d7_0) rfl ?_
    show Steps p.tables e below (s₁.setTop (mkF m 1 #[.val (.ref a1), .val (.int (1 : Int32))] [(.int (1 : Int32))])) _
    refine XS.aloadN X0.here hx rfl (hb hby d7_1) rfl rfl ?_
    show Steps p.tables e below (s₁.setTop (mkF m 2 #[.val (.ref a1), .val (.int (1 : Int32))] [(.ref a1), (.int (1 : Int32))])) _
    refine X0.arraylength hx (by rw [e0]; exact Ar1.1) (State.isArrayOf_alike hZ.alike Ar1.2.1) (g := (mkF m 2 #[.val (.ref a1), .val (.int (1 : Int32))] [(.ref a1), (.int (1 : Int32))])) rfl rfl (hb hby d7_2) _ ?_
    rw [len_of S1 M1]
    show Steps p.tables e below (s₁.setTop (mkF m 3 #[.val (.ref a1), .val (.int (1 : Int32))] [(.int (2 : Int32)), (.int (1 : Int32))])) _
    refine XS.isub X0.here hx rfl (hb hby d7_3) rfl ?_
    show Steps p.tables e below (s₁.setTop (mkF m 4 #[.val (.ref a1), .val (.int (1 : Int32))] [(.int (-1 : Int32))])) _
    refine XS.bipush X0.here hx rfl (hb hby d7_4) ?_
    show Steps p.tables e below (s₁.setTop (mkF m 6 #[.val (.ref a1), .val (.int (1 : Int32))] [(.int (31 : Int32)), (.int (-1 : Int32))])) _
    refine XS.iushr X0.here hx rfl (hb hby d7_6) rfl ?_
    show Steps p.tables e below (s₁.setTop (mkF m 7 #[.val (.ref a1), .val (.int (1 : Int32))] [(.int (1 : Int32))])) _
    refine XS.i2b X0.here hx rfl (hb hby d7_7) rfl ?_
    show Steps p.tables e below (s₁.setTop (mkF m 8 #[.val (.ref a1), .val (.int (1 : Int32))] [(.int (1 : Int32))])) _
    exact retN X0 hx (t := .byte) Bd.returns (by simp) (hb hby d7_8) hr
  · show Qcf21 Z a1 kk b0 b1 h0 n0 _ s₁.heap _
    rw [e0]
    exact ⟨N0, rfl, rfl⟩
theorem ef_cf22 (m : MethodId) (a1 : Addr) : entryFrame m #[(.ref a1), (.int (2 : Int32))] 2 = mkF m 0 #[.val (.ref a1), .val (.int (2 : Int32))] [] := by first | (simp [entryFrame, mkF, argsToLocals, Value.category]; done) | rfl
def Qcf22 (Z : State) (a1 : Addr) (kk : ClassId) (b0 : Int32) (b1 : Int32) (h0 : Heap) (n0 : Nat) (v : Option Value) (h : Heap) (L : List Loc) : Prop := Fr n0 L ∧ h = h0 ∧ (v = some (.int (0 : Int32)))
set_option maxRecDepth 65536 in
set_option maxHeartbeats 40000000 in
theorem rmCf22 (l : Launch) (Z : State) (a0 : Array Value) (hw : ∀ d ∈ tables_1, d.before a0 Z = true) (ws : List Jvm.Cond) (a1 : Addr) (kk : ClassId) (b0 : Int32) (b1 : Int32) (h0 : Heap) (n0 : Nat) (Z0 : n0 ≤ h0.size) (hV : Arv Z h0 a1 kk .byte (2 : Int32) [(.int b0), (.int b1)] (.int (0 : Int32))) :
    MetFree l (⟨"java/lang/StringUTF16", "coderFromArrayLen", "([BI)B"⟩ : MethodName) (head1 (Jvm.Cond.code (⟨"java/lang/StringUTF16", "coderFromArrayLen", "([BI)B"⟩ : MethodName) jdk_52_method_15_code 2 (some .byte) :: ws) ({ frames := 0, cells := 0, slots := 0, locals := 0 } : Room)) (fun a U => a = #[(.ref a1), (.int (2 : Int32))] ∧ Z.Warmed39 U.vm ∧ U.heap = h0) (fun _ _ _ _ _ => True) (fun _ U o U' => ∃ v L, o = .returned v ∧ Qcf22 Z a1 kk b0 b1 h0 n0 v U'.heap L ∧ FrameEnd U o U' L ({ frames := 0, cells := 0, slots := 0, locals := 0 } : Room).cells ({ frames := 0, cells := 0, slots := 0, locals := 0 } : Room).slots) := by
  refine MetFree.of_bodySF (plainFor_of_name own_pn_6) hisR ?_
  intro p e s m args below meth c s₁ Bd hml0 hP hK
  obtain ⟨rfl, hZ, hh⟩ := hP
  have hx := Bd.exec
  have hby := Bd.bytes
  have hml : c.maxLocals = 2 := hml0
  have hown : s.vm.findClass "java/lang/StringUTF16" = some m.cls := findClass_of_methodNamed Bd.named
  have hnm := (name_of_methodNamed Bd.named Bd.method).1
  have X0 : Stand p l e ({ frames := 0, cells := 0, slots := 0, locals := 0 } : Room) s m #[(.ref a1), (.int (2 : Int32))] below meth c s₁ [] 0 0 := Stand.of_body Bd
  have e0 : s₁.heap = h0 := by rw [← hh, Bd.state]; rfl
  have N0 := Fr.nil n0
  have pre0 : ∀ t, Steps p.tables e below (s₁.setTop (mkF m 0 #[.val (.ref a1), .val (.int (2 : Int32))] [])) t → Steps p.tables e below (s₁.setTop (entryFrame m #[(.ref a1), (.int (2 : Int32))] 2)) t := fun t k => castTop (ef_cf22 m a1) k
  obtain ⟨cl1, Ar1, -, S1, M1, -, -⟩ := id hV
  obtain ⟨fs, hr, hrun, hended, hW, hsame⟩ := X0.leave (v := (some (.int (0 : Int32)))) (fun h => by rw [Bd.returns] at h; cases h)
  refine ⟨_, _, pre0 _ ?_, hrun, hended, _, _, rfl, ?_, ⟨_, rfl⟩, hW, hsame.mono (by decide) (by decide)⟩
  · show Steps p.tables e below (s₁.setTop (mkF m 0 #[.val (.ref a1), .val (.int (2 : Int32))] [])) _
    refine XS.iloadN X0.here hx rfl (hb hby d7_0) rfl ?_
    show Steps p.tables e below (s₁.setTop (mkF m 1 #[.val (.ref a1), .val (.int (2 : Int32))] [(.int (2 : Int32))])) _
    refine XS.aloadN X0.here hx rfl (hb hby d7_1) rfl rfl ?_
    show Steps p.tables e below (s₁.setTop (mkF m 2 #[.val (.ref a1), .val (.int (2 : Int32))] [(.ref a1), (.int (2 : Int32))])) _
    refine X0.arraylength hx (by rw [e0]; exact Ar1.1) (State.isArrayOf_alike hZ.alike Ar1.2.1) (g := (mkF m 2 #[.val (.ref a1), .val (.int (2 : Int32))] [(.ref a1), (.int (2 : Int32))])) rfl rfl (hb hby d7_2) _ ?_
    rw [len_of S1 M1]
    show Steps p.tables e below (s₁.setTop (mkF m 3 #[.val (.ref a1), .val (.int (2 : Int32))] [(.int (2 : Int32)), (.int (2 : Int32))])) _
    refine XS.isub X0.here hx rfl (hb hby d7_3) rfl ?_
    show Steps p.tables e below (s₁.setTop (mkF m 4 #[.val (.ref a1), .val (.int (2 : Int32))] [(.int (0 : Int32))])) _
    refine XS.bipush X0.here hx rfl (hb hby d7_4) ?_
    show Steps p.tables e below (s₁.setTop (mkF m 6 #[.val (.ref a1), .val (.int (2 : Int32))] [(.int (31 : Int32)), (.int (0 : Int32))])) _
    refine XS.iushr X0.here hx rfl (hb hby d7_6) rfl ?_
    show Steps p.tables e below (s₁.setTop (mkF m 7 #[.val (.ref a1), .val (.int (2 : Int32))] [(.int (0 : Int32))])) _
    refine XS.i2b X0.here hx rfl (hb hby d7_7) rfl ?_
    show Steps p.tables e below (s₁.setTop (mkF m 8 #[.val (.ref a1), .val (.int (2 : Int32))] [(.int (0 : Int32))])) _
    exact retN X0 hx (t := .byte) Bd.returns (by simp) (hb hby d7_8) hr
  · show Qcf22 Z a1 kk b0 b1 h0 n0 _ s₁.heap _
    rw [e0]
    exact ⟨N0, rfl, rfl⟩
theorem ef_cf42 (m : MethodId) (a1 : Addr) : entryFrame m #[(.ref a1), (.int (2 : Int32))] 2 = mkF m 0 #[.val (.ref a1), .val (.int (2 : Int32))] [] := by first | (simp [entryFrame, mkF, argsToLocals, Value.category]; done) | rfl
def Qcf42 (Z : State) (a1 : Addr) (kk : ClassId) (b0 : Int32) (b1 : Int32) (b2 : Int32) (b3 : Int32) (h0 : Heap) (n0 : Nat) (v : Option Value) (h : Heap) (L : List Loc) : Prop := Fr n0 L ∧ h = h0 ∧ (v = some (.int (1 : Int32)))
set_option maxRecDepth 65536 in
set_option maxHeartbeats 40000000 in
theorem rmCf42 (l : Launch) (Z : State) (a0 : Array Value) (hw : ∀ d ∈ tables_1, d.before a0 Z = true) (ws : List Jvm.Cond) (a1 : Addr) (kk : ClassId) (b0 : Int32) (b1 : Int32) (b2 : Int32) (b3 : Int32) (h0 : Heap) (n0 : Nat) (Z0 : n0 ≤ h0.size) (hV : Arv Z h0 a1 kk .byte (4 : Int32) [(.int b0), (.int b1), (.int b2), (.int b3)] (.int (0 : Int32))) :
    MetFree l (⟨"java/lang/StringUTF16", "coderFromArrayLen", "([BI)B"⟩ : MethodName) (head1 (Jvm.Cond.code (⟨"java/lang/StringUTF16", "coderFromArrayLen", "([BI)B"⟩ : MethodName) jdk_52_method_15_code 2 (some .byte) :: ws) ({ frames := 0, cells := 0, slots := 0, locals := 0 } : Room)) (fun a U => a = #[(.ref a1), (.int (2 : Int32))] ∧ Z.Warmed39 U.vm ∧ U.heap = h0) (fun _ _ _ _ _ => True) (fun _ U o U' => ∃ v L, o = .returned v ∧ Qcf42 Z a1 kk b0 b1 b2 b3 h0 n0 v U'.heap L ∧ FrameEnd U o U' L ({ frames := 0, cells := 0, slots := 0, locals := 0 } : Room).cells ({ frames := 0, cells := 0, slots := 0, locals := 0 } : Room).slots) := by
  refine MetFree.of_bodySF (plainFor_of_name own_pn_6) hisR ?_
  intro p e s m args below meth c s₁ Bd hml0 hP hK
  obtain ⟨rfl, hZ, hh⟩ := hP
  have hx := Bd.exec
  have hby := Bd.bytes
  have hml : c.maxLocals = 2 := hml0
  have hown : s.vm.findClass "java/lang/StringUTF16" = some m.cls := findClass_of_methodNamed Bd.named
  have hnm := (name_of_methodNamed Bd.named Bd.method).1
  have X0 : Stand p l e ({ frames := 0, cells := 0, slots := 0, locals := 0 } : Room) s m #[(.ref a1), (.int (2 : Int32))] below meth c s₁ [] 0 0 := Stand.of_body Bd
  have e0 : s₁.heap = h0 := by rw [← hh, Bd.state]; rfl
  have N0 := Fr.nil n0
  have pre0 : ∀ t, Steps p.tables e below (s₁.setTop (mkF m 0 #[.val (.ref a1), .val (.int (2 : Int32))] [])) t → Steps p.tables e below (s₁.setTop (entryFrame m #[(.ref a1), (.int (2 : Int32))] 2)) t := fun t k => castTop (ef_cf42 m a1) k
  obtain ⟨cl1, Ar1, -, S1, M1, -, -⟩ := id hV
  obtain ⟨fs, hr, hrun, hended, hW, hsame⟩ := X0.leave (v := (some (.int (1 : Int32)))) (fun h => by rw [Bd.returns] at h; cases h)
  refine ⟨_, _, pre0 _ ?_, hrun, hended, _, _, rfl, ?_, ⟨_, rfl⟩, hW, hsame.mono (by decide) (by decide)⟩
  · show Steps p.tables e below (s₁.setTop (mkF m 0 #[.val (.ref a1), .val (.int (2 : Int32))] [])) _
    refine XS.iloadN X0.here hx rfl (hb hby d7_0) rfl ?_
    show Steps p.tables e below (s₁.setTop (mkF m 1 #[.val (.ref a1), .val (.int (2 : Int32))] [(.int (2 : Int32))])) _
    refine XS.aloadN X0.here hx rfl (hb hby d7_1) rfl rfl ?_
    show Steps p.tables e below (s₁.setTop (mkF m 2 #[.val (.ref a1), .val (.int (2 : Int32))] [(.ref a1), (.int (2 : Int32))])) _
    refine X0.arraylength hx (by rw [e0]; exact Ar1.1) (State.isArrayOf_alike hZ.alike Ar1.2.1) (g := (mkF m 2 #[.val (.ref a1), .val (.int (2 : Int32))] [(.ref a1), (.int (2 : Int32))])) rfl rfl (hb hby d7_2) _ ?_
    rw [len_of S1 M1]
    show Steps p.tables e below (s₁.setTop (mkF m 3 #[.val (.ref a1), .val (.int (2 : Int32))] [(.int (4 : Int32)), (.int (2 : Int32))])) _
    refine XS.isub X0.here hx rfl (hb hby d7_3) rfl ?_
    show Steps p.tables e below (s₁.setTop (mkF m 4 #[.val (.ref a1), .val (.int (2 : Int32))] [(.int (-2 : Int32))])) _
    refine XS.bipush X0.here hx rfl (hb hby d7_4) ?_
    show Steps p.tables e below (s₁.setTop (mkF m 6 #[.val (.ref a1), .val (.int (2 : Int32))] [(.int (31 : Int32)), (.int (-2 : Int32))])) _
    refine XS.iushr X0.here hx rfl (hb hby d7_6) rfl ?_
    show Steps p.tables e below (s₁.setTop (mkF m 7 #[.val (.ref a1), .val (.int (2 : Int32))] [(.int (1 : Int32))])) _
    refine XS.i2b X0.here hx rfl (hb hby d7_7) rfl ?_
    show Steps p.tables e below (s₁.setTop (mkF m 8 #[.val (.ref a1), .val (.int (2 : Int32))] [(.int (1 : Int32))])) _
    exact retN X0 hx (t := .byte) Bd.returns (by simp) (hb hby d7_8) hr
  · show Qcf42 Z a1 kk b0 b1 b2 b3 h0 n0 _ s₁.heap _
    rw [e0]
    exact ⟨N0, rfl, rfl⟩
theorem d3_0 : decode jdk_42_method_149_code 0 = .ok (.aload_n 0, 1) := by decide +kernel
theorem d3_1 : decode jdk_42_method_149_code 1 = .ok (.invokespecial 1, 3) := by decide +kernel
theorem d3_4 : decode jdk_42_method_149_code 4 = .ok (.iload_n 3, 1) := by decide +kernel
theorem d3_5 : decode jdk_42_method_149_code 5 = .ok (.ifCond .ne 22, 3) := by decide +kernel
theorem d3_27 : decode jdk_42_method_149_code 27 = .ok (.getstatic 38, 3) := by decide +kernel
theorem d3_30 : decode jdk_42_method_149_code 30 = .ok (.ifCond .eq 28, 3) := by decide +kernel
theorem d3_33 : decode jdk_42_method_149_code 33 = .ok (.aload_n 1, 1) := by decide +kernel
theorem d3_34 : decode jdk_42_method_149_code 34 = .ok (.iload_n 2, 1) := by decide +kernel
theorem d3_35 : decode jdk_42_method_149_code 35 = .ok (.iload_n 3, 1) := by decide +kernel
theorem d3_36 : decode jdk_42_method_149_code 36 = .ok (.invokestatic 177, 3) := by decide +kernel
theorem d3_39 : decode jdk_42_method_149_code 39 = .ok (.astore 5, 2) := by decide +kernel
theorem d3_41 : decode jdk_42_method_149_code 41 = .ok (.aload_n 0, 1) := by decide +kernel
theorem d3_42 : decode jdk_42_method_149_code 42 = .ok (.aload 5, 2) := by decide +kernel
theorem d3_44 : decode jdk_42_method_149_code 44 = .ok (.iload_n 3, 1) := by decide +kernel
theorem d3_45 : decode jdk_42_method_149_code 45 = .ok (.invokestatic 47, 3) := by decide +kernel
theorem own_pd_11 : parseMethodDescriptor "([BI)B" = some ⟨[(.array .byte), .int], some .byte⟩ := by decide +kernel
theorem d3_48 : decode jdk_42_method_149_code 48 = .ok (.putfield 15, 3) := by decide +kernel
theorem d3_51 : decode jdk_42_method_149_code 51 = .ok (.aload_n 0, 1) := by decide +kernel
theorem d3_52 : decode jdk_42_method_149_code 52 = .ok (.aload 5, 2) := by decide +kernel
theorem d3_54 : decode jdk_42_method_149_code 54 = .ok (.putfield 9, 3) := by decide +kernel
theorem d3_57 : decode jdk_42_method_149_code 57 = .ok (.return_, 1) := by decide +kernel
theorem ef_f41 (m : MethodId) (a1 : Addr) (a2 : Addr) : entryFrame m #[(.ref a1), (.ref a2), (.int (0 : Int32)), (.int (1 : Int32)), .null] 6 = mkF m 0 #[.val (.ref a1), .val (.ref a2), .val (.int (0 : Int32)), .val (.int (1 : Int32)), .val .null, .unset] [] := by first | (simp [entryFrame, mkF, argsToLocals, Value.category]; done) | rfl
def Qf41 (Z : State) (a1 : Addr) (a2 : Addr) (kc : ClassId) (c0 : Int32) (G1 : Int32) (h0 : Heap) (n0 : Nat) (v : Option Value) (h : Heap) (L : List Loc) : Prop := ∃ (tt : Addr) (k0 : ClassId) (cc : Int32) (ll : Int32) (vv : List Value), Fr n0 L ∧ Keep h0 h [a1] ∧ Exa Z h a1 "java/lang/String" ∧ Fld Z h a1 "java/lang/String" "coder" "B" (.int cc) ∧ Fld Z h a1 "java/lang/String" "value" "[B" (.ref tt) ∧ Arv Z h tt k0 .byte ll vv (.int (0 : Int32)) ∧ h0.size ≤ tt ∧ own_Rep (1 : Int32) c0 c0 cc ll vv ∧ (v = none)
set_option maxRecDepth 65536 in
set_option maxHeartbeats 40000000 in
theorem rmF41 (l : Launch) (Z : State) (a0 : Array Value) (hw : ∀ d ∈ tables_1, d.before a0 Z = true) (ws : List Jvm.Cond) (a1 : Addr) (a2 : Addr) (kc : ClassId) (c0 : Int32) (G1 : Int32) (h0 : Heap) (n0 : Nat) (Z0 : n0 ≤ h0.size) (hE : Exa Z h0 a1 "java/lang/String") (hF1 : Fld Z h0 a1 "java/lang/String" "value" "[B" .null) (hF2 : Fld Z h0 a1 "java/lang/String" "coder" "B" (.int (0 : Int32))) (hG1 : n0 ≤ a1) (hS : Sta Z Z.heap "java/lang/String" "COMPACT_STRINGS" "Z" (.int G1)) (hG : ¬ (G1 = (0 : Int32))) (hO : Old Z n0 h0) (hSa : Sta Z Z.heap "java/lang/StringUTF16" "$assertionsDisabled" "Z" (.int (1 : Int32))) (hSh : Sta Z Z.heap "java/lang/StringUTF16" "HI_BYTE_SHIFT" "I" (.int (0 : Int32))) (hSl : Sta Z Z.heap "java/lang/StringUTF16" "LO_BYTE_SHIFT" "I" (.int (8 : Int32))) (hVc : Arv Z h0 a2 kc .char (1 : Int32) [(.int c0)] (.int (0 : Int32))) (hH0 : own_H c0) :
    MetFree l (⟨"java/lang/String", "<init>", "([CIILjava/lang/Void;)V"⟩ : MethodName) (head1 (Jvm.Cond.code (⟨"java/lang/String", "<init>", "([CIILjava/lang/Void;)V"⟩ : MethodName) jdk_42_method_149_code 6 none :: ws) ({ frames := 4, cells := 2, slots := 3, locals := 57 } : Room)) (fun a U => a = #[(.ref a1), (.ref a2), (.int (0 : Int32)), (.int (1 : Int32)), .null] ∧ Z.Warmed39 U.vm ∧ U.heap = h0) (fun _ _ _ _ _ => True) (fun _ U o U' => ∃ v L, o = .returned v ∧ Qf41 Z a1 a2 kc c0 G1 h0 n0 v U'.heap L ∧ FrameEnd U o U' L ({ frames := 4, cells := 2, slots := 3, locals := 57 } : Room).cells ({ frames := 4, cells := 2, slots := 3, locals := 57 } : Room).slots) := by
  refine MetFree.of_bodySF (plainFor_of_name own_pn_5) hisR ?_
  intro p e s m args below meth c s₁ Bd hml0 hP hK
  obtain ⟨rfl, hZ, hh⟩ := hP
  have hx := Bd.exec
  have hby := Bd.bytes
  have hml : c.maxLocals = 6 := hml0
  have hown : s.vm.findClass "java/lang/String" = some m.cls := findClass_of_methodNamed Bd.named
  have hnm := (name_of_methodNamed Bd.named Bd.method).1
  have X0 : Stand p l e ({ frames := 4, cells := 2, slots := 3, locals := 57 } : Room) s m #[(.ref a1), (.ref a2), (.int (0 : Int32)), (.int (1 : Int32)), .null] below meth c s₁ [] 0 0 := Stand.of_body Bd
  have e0 : s₁.heap = h0 := by rw [← hh, Bd.state]; rfl
  have N0 := Fr.nil n0
  have pre0 : ∀ t, Steps p.tables e below (s₁.setTop (mkF m 0 #[.val (.ref a1), .val (.ref a2), .val (.int (0 : Int32)), .val (.int (1 : Int32)), .val .null, .unset] [])) t → Steps p.tables e below (s₁.setTop (entryFrame m #[(.ref a1), (.ref a2), (.int (0 : Int32)), (.int (1 : Int32)), .null] 6)) t := fun t k => castTop (ef_f41 m a1 a2) k
  obtain ⟨T1, X1, e1, st1⟩ := initO X0 hx hZ hown (own_k hw 16 rfl) (own_k hw 17 rfl) (own_k hw 18 rfl) e0 (g := (mkF m 1 #[.val (.ref a1), .val (.ref a2), .val (.int (0 : Int32)), .val (.int (1 : Int32)), .val .null, .unset] [(.ref a1)])) rfl (by rw [hml]; rfl) rfl (hb hby d3_1) (by decide) (W := 0) (by show 2 * 0 + _ ≤ _; exact Nat.le_of_eq rfl) (by decide)
  obtain ⟨T2, X2, e2, st2⟩ := getS2 X1 hx hZ hown (host := "") (Or.inl (own_k hw 19 rfl)) Via.refl e1 (hS.ext hO.2) (g := (mkF m 27 #[.val (.ref a1), .val (.ref a2), .val (.int (0 : Int32)), .val (.int (1 : Int32)), .val .null, .unset] [])) rfl (hb hby d3_27)
  have pre3 : ∀ t, Steps p.tables e below (T2.setTop (mkF m 36 #[.val (.ref a1), .val (.ref a2), .val (.int (0 : Int32)), .val (.int (1 : Int32)), .val .null, .unset] [(.int (1 : Int32)), (.int (0 : Int32)), (.ref a2)])) t → Steps p.tables e below (s₁.setTop (entryFrame m #[(.ref a1), (.ref a2), (.int (0 : Int32)), (.int (1 : Int32)), .null] 6)) t := fun t kt => pre0 t (by
    show Steps p.tables e below (s₁.setTop (mkF m 0 #[.val (.ref a1), .val (.ref a2), .val (.int (0 : Int32)), .val (.int (1 : Int32)), .val .null, .unset] [])) _
    refine XS.aloadN X0.here hx rfl (hb hby d3_0) rfl rfl ?_
    show Steps p.tables e below (s₁.setTop (mkF m 1 #[.val (.ref a1), .val (.ref a2), .val (.int (0 : Int32)), .val (.int (1 : Int32)), .val .null, .unset] [(.ref a1)])) _
    refine st1 _ ?_
    show Steps p.tables e below (T1.setTop (mkF m 4 #[.val (.ref a1), .val (.ref a2), .val (.int (0 : Int32)), .val (.int (1 : Int32)), .val .null, .unset] [])) _
    refine XS.iloadN X1.here hx rfl (hb hby d3_4) rfl ?_
    show Steps p.tables e below (T1.setTop (mkF m 5 #[.val (.ref a1), .val (.ref a2), .val (.int (0 : Int32)), .val (.int (1 : Int32)), .val .null, .unset] [(.int (1 : Int32))])) _
    refine XS.ifYes X1.here hx rfl (pc0 := 5) (pc' := 27) rfl (hb hby d3_5) rfl (by decide) (by decide) (by decide) ?_
    show Steps p.tables e below (T1.setTop (mkF m 27 #[.val (.ref a1), .val (.ref a2), .val (.int (0 : Int32)), .val (.int (1 : Int32)), .val .null, .unset] [])) _
    refine st2 _ ?_
    show Steps p.tables e below (T2.setTop (mkF m 30 #[.val (.ref a1), .val (.ref a2), .val (.int (0 : Int32)), .val (.int (1 : Int32)), .val .null, .unset] [(.int G1)])) _
    refine XS.ifNo X2.here hx rfl (hb hby d3_30) rfl ((if0 _ _).trans (feq hG).1) ?_
    show Steps p.tables e below (T2.setTop (mkF m 33 #[.val (.ref a1), .val (.ref a2), .val (.int (0 : Int32)), .val (.int (1 : Int32)), .val .null, .unset] [])) _
    refine XS.aloadN X2.here hx rfl (hb hby d3_33) rfl rfl ?_
    show Steps p.tables e below (T2.setTop (mkF m 34 #[.val (.ref a1), .val (.ref a2), .val (.int (0 : Int32)), .val (.int (1 : Int32)), .val .null, .unset] [(.ref a2)])) _
    refine XS.iloadN X2.here hx rfl (hb hby d3_34) rfl ?_
    show Steps p.tables e below (T2.setTop (mkF m 35 #[.val (.ref a1), .val (.ref a2), .val (.int (0 : Int32)), .val (.int (1 : Int32)), .val .null, .unset] [(.int (0 : Int32)), (.ref a2)])) _
    refine XS.iloadN X2.here hx rfl (hb hby d3_35) rfl ?_
    exact kt)
  by_cases hg4 : (255 : Int32) < c0
  · skip
    obtain ⟨_, _, ⟨T5, L5, k5, n5⟩, -, X5, ⟨Lc5, hQ5, l5, y5, z5⟩, st5⟩ := Jvm.LawKit.callS X2 hx (y := (⟨"java/lang/StringUTF16", "compress", "([CII)[B"⟩ : MethodName)) hown (mvT hZ (own_k hw 20 rfl)) (mvT hZ (own_k hw 21 rfl)) (mvT hZ (own_k hw 22 rfl)) (mvT hZ (own_k hw 23 rfl)) (by decide) (backOf (W := 0) (rmCm1u l Z a0 hw [] a2 kc c0 h0 n0 Z0 hSa hSh hSl hO hVc (hg4) (hH0)) hZ (own_k hw 23 rfl) (own_k hw 22 rfl) (by decide) (by decide)) (g := (mkF m 36 #[.val (.ref a1), .val (.ref a2), .val (.int (0 : Int32)), .val (.int (1 : Int32)), .val .null, .unset] [(.int (1 : Int32)), (.int (0 : Int32)), (.ref a2)])) rfl (by rw [hml]; rfl) (argsL := [(.ref a2), (.int (0 : Int32)), (.int (1 : Int32))]) (rest := []) (lenOf own_pd_10 rfl) rfl (by show 2 * 0 + _ ≤ _; exact Nat.le_of_eq rfl) (hb hby d3_36) (fun _ _ => ⟨rfl, e2, (by decide : 0 + 2 ≤ _), (by decide : 0 + 3 ≤ _)⟩)
    dsimp only [Pt.U, Pt.locs, Pt.cells, Pt.slots] at X5 l5 y5 z5 st5 hQ5
    subst l5
    subst y5 z5
    obtain ⟨bb_5, k0_5, Nq5, Kq5, p5_0, p5_1, hv5⟩ := hQ5
    have N5 := Fr.app N0 Nq5
    have g_bb_5 : n0 ≤ bb_5 := Nat.le_trans Z0 p5_0
    have sz_bb_5 : h0.size ≤ bb_5 := Nat.le_trans (Keep.refl h0 [a1]).1 p5_0
    have K6 : Keep h0 T5.heap [a1] := (Keep.refl h0 [a1]).trans Kq5 all0
    subst hv5
    have f8 : n0 ≤ T5.heap.size := (Nat.le_trans Z0 Kq5.1)
    obtain ⟨_, _, ⟨T7, L7, k7, n7⟩, -, X7, ⟨Lc7, hQ7, l7, y7, z7⟩, st7⟩ := Jvm.LawKit.callS X5 hx (y := (⟨"java/lang/StringUTF16", "coderFromArrayLen", "([BI)B"⟩ : MethodName)) hown (mvT hZ (own_k hw 28 rfl)) (mvT hZ (own_k hw 29 rfl)) (mvT hZ (own_k hw 22 rfl)) (mvT hZ (own_k hw 30 rfl)) (by decide) (backOf (W := 1) (rmCf21 l Z a0 hw [] bb_5 k0_5 (((c0 >>> ((0 : Int32) &&& 31)).toInt8.toInt32).toInt8.toInt32) (((c0 >>> ((8 : Int32) &&& 31)).toInt8.toInt32).toInt8.toInt32) T5.heap n0 f8 p5_1) hZ (own_k hw 30 rfl) (own_k hw 22 rfl) (by decide) (by decide)) (g := (mkF m 45 #[.val (.ref a1), .val (.ref a2), .val (.int (0 : Int32)), .val (.int (1 : Int32)), .val .null, .val (.ref bb_5)] [(.int (1 : Int32)), (.ref bb_5), (.ref a1)])) rfl (by rw [hml]; rfl) (argsL := [(.ref bb_5), (.int (1 : Int32))]) (rest := [(.ref a1)]) (lenOf own_pd_11 rfl) rfl (by show 2 * 0 + _ ≤ _; exact Nat.le_of_eq rfl) (hb hby d3_45) (fun _ _ => ⟨rfl, rfl, (by decide : 2 + 0 ≤ _), (by decide : 3 + 0 ≤ _)⟩)
    dsimp only [Pt.U, Pt.locs, Pt.cells, Pt.slots] at X7 l7 y7 z7 st7 hQ7
    subst l7
    subst y7 z7
    obtain ⟨Nq7, eh7, hv7⟩ := hQ7
    have N7 := Fr.app N5 Nq7
    subst hv7
    have f9 : Fld Z T5.heap a1 "java/lang/String" "coder" "B" (.int (0 : Int32)) := (hF2.keep Kq5 nin0)
    have f10 : Exa Z T5.heap a1 "java/lang/String" := (hE.keep Kq5)
    obtain ⟨T11, h11, X11, e11, W11, st11⟩ := putFN X7 hx hZ hown (own_k hw 31 rfl) Via.refl eh7 f9 f10 (Or.inr ⟨(own_k hw 32 rfl), rfl, hnm⟩) (own_k hw 6 rfl) (ty := .byte) (v' := (.int (1 : Int32))) (by decide) rfl rfl (g := (mkF m 48 #[.val (.ref a1), .val (.ref a2), .val (.int (0 : Int32)), .val (.int (1 : Int32)), .val .null, .val (.ref bb_5)] [(.int (1 : Int32)), (.ref a1)])) rfl rfl (hb hby d3_48)
    have N11 := Fr.snoc X11 N7 hG1
    have K12 : Keep h0 h11 [a1] := K6.wr W11 (Or.inl (List.mem_of_getElem? (i := 0) rfl))
    have Fw11 : Fld Z h11 a1 "java/lang/String" "coder" "B" (.int (1 : Int32)) := f9.same W11
    have f13 : Fld Z h11 a1 "java/lang/String" "value" "[B" .null := ((hF1.keep Kq5 nin0).other W11 (Or.inr (slot_ne (Or.inr (own_k hw 34 rfl)) (Or.inr (own_k hw 32 rfl)) (by decide) (t := (.array .byte)) (t' := .byte) (by decide) (by decide))))
    have f14 : Exa Z h11 a1 "java/lang/String" := (f10.wr W11)
    obtain ⟨T15, h15, X15, e15, W15, st15⟩ := putF X11 hx hZ hown (host := "") (Or.inl (own_k hw 33 rfl)) Via.refl e11 f13 f14 (Or.inr ⟨(own_k hw 34 rfl), rfl, hnm⟩) (own_k hw 6 rfl) (ty := (.array .byte)) (by decide) rfl rfl (g := (mkF m 54 #[.val (.ref a1), .val (.ref a2), .val (.int (0 : Int32)), .val (.int (1 : Int32)), .val .null, .val (.ref bb_5)] [(.ref bb_5), (.ref a1)])) rfl rfl (hb hby d3_54)
    have N15 := Fr.snoc X15 N11 hG1
    have K16 : Keep h0 h15 [a1] := K12.wr W15 (Or.inl (List.mem_of_getElem? (i := 0) rfl))
    have Fw15 : Fld Z h15 a1 "java/lang/String" "value" "[B" (.ref bb_5) := f13.same W15
    have f17 : Exa Z h15 a1 "java/lang/String" := (f14.wr W15)
    have f18 : Fld Z h15 a1 "java/lang/String" "coder" "B" (.int (1 : Int32)) := (Fw11.other W15 (Or.inr (slot_ne (Or.inr (own_k hw 32 rfl)) (Or.inr (own_k hw 34 rfl)) (by decide) (t := .byte) (t' := (.array .byte)) (by decide) (by decide))))
    have f19 : Arv Z h15 bb_5 k0_5 .byte (2 : Int32) [(.int (((c0 >>> ((0 : Int32) &&& 31)).toInt8.toInt32).toInt8.toInt32)), (.int (((c0 >>> ((8 : Int32) &&& 31)).toInt8.toInt32).toInt8.toInt32))] (.int (0 : Int32)) := ((p5_1.other W11 (Ne.symm (Nat.ne_of_lt (Nat.lt_of_lt_of_le hE.lt p5_0)))).other W15 (Ne.symm (Nat.ne_of_lt (Nat.lt_of_lt_of_le hE.lt p5_0))))
    obtain ⟨fs, hr, hrun, hended, hW, hsame⟩ := X15.leave (v := none) (fun _ => rfl)
    refine ⟨_, _, pre3 _ ?_, hrun, hended, _, _, rfl, ?_, ⟨_, rfl⟩, hW, hsame.mono (by decide) (by decide)⟩
    · show Steps p.tables e below (T2.setTop (mkF m 36 #[.val (.ref a1), .val (.ref a2), .val (.int (0 : Int32)), .val (.int (1 : Int32)), .val .null, .unset] [(.int (1 : Int32)), (.int (0 : Int32)), (.ref a2)])) _
      refine st5 _ ?_
      show Steps p.tables e below (T5.setTop (mkF m 39 #[.val (.ref a1), .val (.ref a2), .val (.int (0 : Int32)), .val (.int (1 : Int32)), .val .null, .unset] [(.ref bb_5)])) _
      refine XS.astore X5.here hx rfl (hb hby d3_39) rfl rfl (l' := #[.val (.ref a1), .val (.ref a2), .val (.int (0 : Int32)), .val (.int (1 : Int32)), .val .null, .val (.ref bb_5)]) rfl ?_
      show Steps p.tables e below (T5.setTop (mkF m 41 #[.val (.ref a1), .val (.ref a2), .val (.int (0 : Int32)), .val (.int (1 : Int32)), .val .null, .val (.ref bb_5)] [])) _
      refine XS.aloadN X5.here hx rfl (hb hby d3_41) rfl rfl ?_
      show Steps p.tables e below (T5.setTop (mkF m 42 #[.val (.ref a1), .val (.ref a2), .val (.int (0 : Int32)), .val (.int (1 : Int32)), .val .null, .val (.ref bb_5)] [(.ref a1)])) _
      refine XS.aload X5.here hx rfl (hb hby d3_42) rfl rfl ?_
      show Steps p.tables e below (T5.setTop (mkF m 44 #[.val (.ref a1), .val (.ref a2), .val (.int (0 : Int32)), .val (.int (1 : Int32)), .val .null, .val (.ref bb_5)] [(.ref bb_5), (.ref a1)])) _
      refine XS.iloadN X5.here hx rfl (hb hby d3_44) rfl ?_
      show Steps p.tables e below (T5.setTop (mkF m 45 #[.val (.ref a1), .val (.ref a2), .val (.int (0 : Int32)), .val (.int (1 : Int32)), .val .null, .val (.ref bb_5)] [(.int (1 : Int32)), (.ref bb_5), (.ref a1)])) _
      refine st7 _ ?_
      show Steps p.tables e below (T7.setTop (mkF m 48 #[.val (.ref a1), .val (.ref a2), .val (.int (0 : Int32)), .val (.int (1 : Int32)), .val .null, .val (.ref bb_5)] [(.int (1 : Int32)), (.ref a1)])) _
      refine st11 _ ?_
      show Steps p.tables e below (T11.setTop (mkF m 51 #[.val (.ref a1), .val (.ref a2), .val (.int (0 : Int32)), .val (.int (1 : Int32)), .val .null, .val (.ref bb_5)] [])) _
      refine XS.aloadN X11.here hx rfl (hb hby d3_51) rfl rfl ?_
      show Steps p.tables e below (T11.setTop (mkF m 52 #[.val (.ref a1), .val (.ref a2), .val (.int (0 : Int32)), .val (.int (1 : Int32)), .val .null, .val (.ref bb_5)] [(.ref a1)])) _
      refine XS.aload X11.here hx rfl (hb hby d3_52) rfl rfl ?_
      show Steps p.tables e below (T11.setTop (mkF m 54 #[.val (.ref a1), .val (.ref a2), .val (.int (0 : Int32)), .val (.int (1 : Int32)), .val .null, .val (.ref bb_5)] [(.ref bb_5), (.ref a1)])) _
      refine st15 _ ?_
      show Steps p.tables e below (T15.setTop (mkF m 57 #[.val (.ref a1), .val (.ref a2), .val (.int (0 : Int32)), .val (.int (1 : Int32)), .val .null, .val (.ref bb_5)] [])) _
      exact X15.returnOut hx Bd.returns (hb hby d3_57) hr
    · show Qf41 Z a1 a2 kc c0 G1 h0 n0 _ T15.heap _
      rw [e15]
      exact ⟨bb_5, k0_5, (1 : Int32), (2 : Int32), [(.int (((c0 >>> ((0 : Int32) &&& 31)).toInt8.toInt32).toInt8.toInt32)), (.int (((c0 >>> ((8 : Int32) &&& 31)).toInt8.toInt32).toInt8.toInt32))], N15, K16, f17, f18, Fw15, f19, sz_bb_5, (Or.inr (Or.inr (Or.inl ⟨rfl, rfl, rfl, rfl⟩))), rfl⟩
  · skip
    obtain ⟨_, _, ⟨T20, L20, k20, n20⟩, -, X20, ⟨Lc20, hQ20, l20, y20, z20⟩, st20⟩ := Jvm.LawKit.callS X2 hx (y := (⟨"java/lang/StringUTF16", "compress", "([CII)[B"⟩ : MethodName)) hown (mvT hZ (own_k hw 20 rfl)) (mvT hZ (own_k hw 21 rfl)) (mvT hZ (own_k hw 22 rfl)) (mvT hZ (own_k hw 23 rfl)) (by decide) (backOf (W := 0) (rmCm1l l Z a0 hw [] a2 kc c0 h0 n0 Z0 hVc (hg4) (hH0)) hZ (own_k hw 23 rfl) (own_k hw 22 rfl) (by decide) (by decide)) (g := (mkF m 36 #[.val (.ref a1), .val (.ref a2), .val (.int (0 : Int32)), .val (.int (1 : Int32)), .val .null, .unset] [(.int (1 : Int32)), (.int (0 : Int32)), (.ref a2)])) rfl (by rw [hml]; rfl) (argsL := [(.ref a2), (.int (0 : Int32)), (.int (1 : Int32))]) (rest := []) (lenOf own_pd_10 rfl) rfl (by show 2 * 0 + _ ≤ _; exact Nat.le_of_eq rfl) (hb hby d3_36) (fun _ _ => ⟨rfl, e2, (by decide : 0 + 1 ≤ _), (by decide : 0 + 1 ≤ _)⟩)
    dsimp only [Pt.U, Pt.locs, Pt.cells, Pt.slots] at X20 l20 y20 z20 st20 hQ20
    subst l20
    subst y20 z20
    obtain ⟨bb_20, k0_20, Nq20, Kq20, p20_0, p20_1, hv20⟩ := hQ20
    have N20 := Fr.app N0 Nq20
    have g_bb_20 : n0 ≤ bb_20 := Nat.le_trans Z0 p20_0
    have sz_bb_20 : h0.size ≤ bb_20 := Nat.le_trans (Keep.refl h0 [a1]).1 p20_0
    have K21 : Keep h0 T20.heap [a1] := (Keep.refl h0 [a1]).trans Kq20 all0
    subst hv20
    have f23 : n0 ≤ T20.heap.size := (Nat.le_trans Z0 Kq20.1)
    obtain ⟨_, _, ⟨T22, L22, k22, n22⟩, -, X22, ⟨Lc22, hQ22, l22, y22, z22⟩, st22⟩ := Jvm.LawKit.callS X20 hx (y := (⟨"java/lang/StringUTF16", "coderFromArrayLen", "([BI)B"⟩ : MethodName)) hown (mvT hZ (own_k hw 28 rfl)) (mvT hZ (own_k hw 29 rfl)) (mvT hZ (own_k hw 22 rfl)) (mvT hZ (own_k hw 30 rfl)) (by decide) (backOf (W := 1) (rmCf11 l Z a0 hw [] bb_20 k0_20 ((c0.toInt8.toInt32).toInt8.toInt32) T20.heap n0 f23 p20_1) hZ (own_k hw 30 rfl) (own_k hw 22 rfl) (by decide) (by decide)) (g := (mkF m 45 #[.val (.ref a1), .val (.ref a2), .val (.int (0 : Int32)), .val (.int (1 : Int32)), .val .null, .val (.ref bb_20)] [(.int (1 : Int32)), (.ref bb_20), (.ref a1)])) rfl (by rw [hml]; rfl) (argsL := [(.ref bb_20), (.int (1 : Int32))]) (rest := [(.ref a1)]) (lenOf own_pd_11 rfl) rfl (by show 2 * 0 + _ ≤ _; exact Nat.le_of_eq rfl) (hb hby d3_45) (fun _ _ => ⟨rfl, rfl, (by decide : 1 + 0 ≤ _), (by decide : 1 + 0 ≤ _)⟩)
    dsimp only [Pt.U, Pt.locs, Pt.cells, Pt.slots] at X22 l22 y22 z22 st22 hQ22
    subst l22
    subst y22 z22
    obtain ⟨Nq22, eh22, hv22⟩ := hQ22
    have N22 := Fr.app N20 Nq22
    subst hv22
    have f24 : Fld Z T20.heap a1 "java/lang/String" "coder" "B" (.int (0 : Int32)) := (hF2.keep Kq20 nin0)
    have f25 : Exa Z T20.heap a1 "java/lang/String" := (hE.keep Kq20)
    obtain ⟨T26, h26, X26, e26, W26, st26⟩ := putFN X22 hx hZ hown (own_k hw 31 rfl) Via.refl eh22 f24 f25 (Or.inr ⟨(own_k hw 32 rfl), rfl, hnm⟩) (own_k hw 6 rfl) (ty := .byte) (v' := (.int (0 : Int32))) (by decide) rfl rfl (g := (mkF m 48 #[.val (.ref a1), .val (.ref a2), .val (.int (0 : Int32)), .val (.int (1 : Int32)), .val .null, .val (.ref bb_20)] [(.int (0 : Int32)), (.ref a1)])) rfl rfl (hb hby d3_48)
    have N26 := Fr.snoc X26 N22 hG1
    have K27 : Keep h0 h26 [a1] := K21.wr W26 (Or.inl (List.mem_of_getElem? (i := 0) rfl))
    have Fw26 : Fld Z h26 a1 "java/lang/String" "coder" "B" (.int (0 : Int32)) := f24.same W26
    have f28 : Fld Z h26 a1 "java/lang/String" "value" "[B" .null := ((hF1.keep Kq20 nin0).other W26 (Or.inr (slot_ne (Or.inr (own_k hw 34 rfl)) (Or.inr (own_k hw 32 rfl)) (by decide) (t := (.array .byte)) (t' := .byte) (by decide) (by decide))))
    have f29 : Exa Z h26 a1 "java/lang/String" := (f25.wr W26)
    obtain ⟨T30, h30, X30, e30, W30, st30⟩ := putF X26 hx hZ hown (host := "") (Or.inl (own_k hw 33 rfl)) Via.refl e26 f28 f29 (Or.inr ⟨(own_k hw 34 rfl), rfl, hnm⟩) (own_k hw 6 rfl) (ty := (.array .byte)) (by decide) rfl rfl (g := (mkF m 54 #[.val (.ref a1), .val (.ref a2), .val (.int (0 : Int32)), .val (.int (1 : Int32)), .val .null, .val (.ref bb_20)] [(.ref bb_20), (.ref a1)])) rfl rfl (hb hby d3_54)
    have N30 := Fr.snoc X30 N26 hG1
    have K31 : Keep h0 h30 [a1] := K27.wr W30 (Or.inl (List.mem_of_getElem? (i := 0) rfl))
    have Fw30 : Fld Z h30 a1 "java/lang/String" "value" "[B" (.ref bb_20) := f28.same W30
    have f32 : Exa Z h30 a1 "java/lang/String" := (f29.wr W30)
    have f33 : Fld Z h30 a1 "java/lang/String" "coder" "B" (.int (0 : Int32)) := (Fw26.other W30 (Or.inr (slot_ne (Or.inr (own_k hw 32 rfl)) (Or.inr (own_k hw 34 rfl)) (by decide) (t := .byte) (t' := (.array .byte)) (by decide) (by decide))))
    have f34 : Arv Z h30 bb_20 k0_20 .byte (1 : Int32) [(.int ((c0.toInt8.toInt32).toInt8.toInt32))] (.int (0 : Int32)) := ((p20_1.other W26 (Ne.symm (Nat.ne_of_lt (Nat.lt_of_lt_of_le hE.lt p20_0)))).other W30 (Ne.symm (Nat.ne_of_lt (Nat.lt_of_lt_of_le hE.lt p20_0))))
    obtain ⟨fs, hr, hrun, hended, hW, hsame⟩ := X30.leave (v := none) (fun _ => rfl)
    refine ⟨_, _, pre3 _ ?_, hrun, hended, _, _, rfl, ?_, ⟨_, rfl⟩, hW, hsame.mono (by decide) (by decide)⟩
    · show Steps p.tables e below (T2.setTop (mkF m 36 #[.val (.ref a1), .val (.ref a2), .val (.int (0 : Int32)), .val (.int (1 : Int32)), .val .null, .unset] [(.int (1 : Int32)), (.int (0 : Int32)), (.ref a2)])) _
      refine st20 _ ?_
      show Steps p.tables e below (T20.setTop (mkF m 39 #[.val (.ref a1), .val (.ref a2), .val (.int (0 : Int32)), .val (.int (1 : Int32)), .val .null, .unset] [(.ref bb_20)])) _
      refine XS.astore X20.here hx rfl (hb hby d3_39) rfl rfl (l' := #[.val (.ref a1), .val (.ref a2), .val (.int (0 : Int32)), .val (.int (1 : Int32)), .val .null, .val (.ref bb_20)]) rfl ?_
      show Steps p.tables e below (T20.setTop (mkF m 41 #[.val (.ref a1), .val (.ref a2), .val (.int (0 : Int32)), .val (.int (1 : Int32)), .val .null, .val (.ref bb_20)] [])) _
      refine XS.aloadN X20.here hx rfl (hb hby d3_41) rfl rfl ?_
      show Steps p.tables e below (T20.setTop (mkF m 42 #[.val (.ref a1), .val (.ref a2), .val (.int (0 : Int32)), .val (.int (1 : Int32)), .val .null, .val (.ref bb_20)] [(.ref a1)])) _
      refine XS.aload X20.here hx rfl (hb hby d3_42) rfl rfl ?_
      show Steps p.tables e below (T20.setTop (mkF m 44 #[.val (.ref a1), .val (.ref a2), .val (.int (0 : Int32)), .val (.int (1 : Int32)), .val .null, .val (.ref bb_20)] [(.ref bb_20), (.ref a1)])) _
      refine XS.iloadN X20.here hx rfl (hb hby d3_44) rfl ?_
      show Steps p.tables e below (T20.setTop (mkF m 45 #[.val (.ref a1), .val (.ref a2), .val (.int (0 : Int32)), .val (.int (1 : Int32)), .val .null, .val (.ref bb_20)] [(.int (1 : Int32)), (.ref bb_20), (.ref a1)])) _
      refine st22 _ ?_
      show Steps p.tables e below (T22.setTop (mkF m 48 #[.val (.ref a1), .val (.ref a2), .val (.int (0 : Int32)), .val (.int (1 : Int32)), .val .null, .val (.ref bb_20)] [(.int (0 : Int32)), (.ref a1)])) _
      refine st26 _ ?_
      show Steps p.tables e below (T26.setTop (mkF m 51 #[.val (.ref a1), .val (.ref a2), .val (.int (0 : Int32)), .val (.int (1 : Int32)), .val .null, .val (.ref bb_20)] [])) _
      refine XS.aloadN X26.here hx rfl (hb hby d3_51) rfl rfl ?_
      show Steps p.tables e below (T26.setTop (mkF m 52 #[.val (.ref a1), .val (.ref a2), .val (.int (0 : Int32)), .val (.int (1 : Int32)), .val .null, .val (.ref bb_20)] [(.ref a1)])) _
      refine XS.aload X26.here hx rfl (hb hby d3_52) rfl rfl ?_
      show Steps p.tables e below (T26.setTop (mkF m 54 #[.val (.ref a1), .val (.ref a2), .val (.int (0 : Int32)), .val (.int (1 : Int32)), .val .null, .val (.ref bb_20)] [(.ref bb_20), (.ref a1)])) _
      refine st30 _ ?_
      show Steps p.tables e below (T30.setTop (mkF m 57 #[.val (.ref a1), .val (.ref a2), .val (.int (0 : Int32)), .val (.int (1 : Int32)), .val .null, .val (.ref bb_20)] [])) _
      exact X30.returnOut hx Bd.returns (hb hby d3_57) hr
    · show Qf41 Z a1 a2 kc c0 G1 h0 n0 _ T30.heap _
      rw [e30]
      exact ⟨bb_20, k0_20, (0 : Int32), (1 : Int32), [(.int ((c0.toInt8.toInt32).toInt8.toInt32))], N30, K31, f32, f33, Fw30, f34, sz_bb_20, (Or.inr (Or.inl ⟨rfl, rfl, rfl, rfl, hg4⟩)), rfl⟩
theorem d2_0 : decode jdk_42_method_3_code 0 = .ok (.aload_n 0, 1) := by decide +kernel
theorem d2_1 : decode jdk_42_method_3_code 1 = .ok (.aload_n 1, 1) := by decide +kernel
theorem d2_2 : decode jdk_42_method_3_code 2 = .ok (.iconst 0, 1) := by decide +kernel
theorem d2_3 : decode jdk_42_method_3_code 3 = .ok (.aload_n 1, 1) := by decide +kernel
theorem d2_4 : decode jdk_42_method_3_code 4 = .ok (.arraylength, 1) := by decide +kernel
theorem d2_5 : decode jdk_42_method_3_code 5 = .ok (.aconst_null, 1) := by decide +kernel
theorem d2_6 : decode jdk_42_method_3_code 6 = .ok (.invokespecial 27, 3) := by decide +kernel
theorem own_pd_12 : parseMethodDescriptor "([CIILjava/lang/Void;)V" = some ⟨[(.array .char), .int, .int, (.object "java/lang/Void")], none⟩ := by decide +kernel
theorem d2_9 : decode jdk_42_method_3_code 9 = .ok (.return_, 1) := by decide +kernel
theorem ef_f11 (m : MethodId) (a1 : Addr) (a2 : Addr) : entryFrame m #[(.ref a1), (.ref a2)] 2 = mkF m 0 #[.val (.ref a1), .val (.ref a2)] [] := by first | (simp [entryFrame, mkF, argsToLocals, Value.category]; done) | rfl
def Qf11 (Z : State) (a1 : Addr) (a2 : Addr) (kc : ClassId) (c0 : Int32) (G1 : Int32) (h0 : Heap) (n0 : Nat) (v : Option Value) (h : Heap) (L : List Loc) : Prop := ∃ (tt : Addr) (k0 : ClassId) (cc : Int32) (ll : Int32) (vv : List Value), Fr n0 L ∧ Keep h0 h [a1] ∧ Exa Z h a1 "java/lang/String" ∧ Fld Z h a1 "java/lang/String" "coder" "B" (.int cc) ∧ Fld Z h a1 "java/lang/String" "value" "[B" (.ref tt) ∧ Arv Z h tt k0 .byte ll vv (.int (0 : Int32)) ∧ h0.size ≤ tt ∧ own_Rep (1 : Int32) c0 c0 cc ll vv ∧ (v = none)
set_option maxRecDepth 65536 in
set_option maxHeartbeats 40000000 in
theorem rmF11 (l : Launch) (Z : State) (a0 : Array Value) (hw : ∀ d ∈ tables_1, d.before a0 Z = true) (ws : List Jvm.Cond) (a1 : Addr) (a2 : Addr) (kc : ClassId) (c0 : Int32) (G1 : Int32) (h0 : Heap) (n0 : Nat) (Z0 : n0 ≤ h0.size) (hE : Exa Z h0 a1 "java/lang/String") (hF1 : Fld Z h0 a1 "java/lang/String" "value" "[B" .null) (hF2 : Fld Z h0 a1 "java/lang/String" "coder" "B" (.int (0 : Int32))) (hG1 : n0 ≤ a1) (hS : Sta Z Z.heap "java/lang/String" "COMPACT_STRINGS" "Z" (.int G1)) (hG : ¬ (G1 = (0 : Int32))) (hO : Old Z n0 h0) (hSa : Sta Z Z.heap "java/lang/StringUTF16" "$assertionsDisabled" "Z" (.int (1 : Int32))) (hSh : Sta Z Z.heap "java/lang/StringUTF16" "HI_BYTE_SHIFT" "I" (.int (0 : Int32))) (hSl : Sta Z Z.heap "java/lang/StringUTF16" "LO_BYTE_SHIFT" "I" (.int (8 : Int32))) (hVc : Arv Z h0 a2 kc .char (1 : Int32) [(.int c0)] (.int (0 : Int32))) (hH0 : own_H c0) :
    MetFree l (⟨"java/lang/String", "<init>", "([C)V"⟩ : MethodName) (head1 (Jvm.Cond.code (⟨"java/lang/String", "<init>", "([C)V"⟩ : MethodName) jdk_42_method_3_code 2 none :: ws) ({ frames := 5, cells := 2, slots := 3, locals := 74 } : Room)) (fun a U => a = #[(.ref a1), (.ref a2)] ∧ Z.Warmed39 U.vm ∧ U.heap = h0) (fun _ _ _ _ _ => True) (fun _ U o U' => ∃ v L, o = .returned v ∧ Qf11 Z a1 a2 kc c0 G1 h0 n0 v U'.heap L ∧ FrameEnd U o U' L ({ frames := 5, cells := 2, slots := 3, locals := 74 } : Room).cells ({ frames := 5, cells := 2, slots := 3, locals := 74 } : Room).slots) := by
  refine MetFree.of_bodySF (plainFor_of_name own_pn_5) hisR ?_
  intro p e s m args below meth c s₁ Bd hml0 hP hK
  obtain ⟨rfl, hZ, hh⟩ := hP
  have hx := Bd.exec
  have hby := Bd.bytes
  have hml : c.maxLocals = 2 := hml0
  have hown : s.vm.findClass "java/lang/String" = some m.cls := findClass_of_methodNamed Bd.named
  have hnm := (name_of_methodNamed Bd.named Bd.method).1
  have X0 : Stand p l e ({ frames := 5, cells := 2, slots := 3, locals := 74 } : Room) s m #[(.ref a1), (.ref a2)] below meth c s₁ [] 0 0 := Stand.of_body Bd
  have e0 : s₁.heap = h0 := by rw [← hh, Bd.state]; rfl
  have N0 := Fr.nil n0
  have pre0 : ∀ t, Steps p.tables e below (s₁.setTop (mkF m 0 #[.val (.ref a1), .val (.ref a2)] [])) t → Steps p.tables e below (s₁.setTop (entryFrame m #[(.ref a1), (.ref a2)] 2)) t := fun t k => castTop (ef_f11 m a1 a2) k
  obtain ⟨cl1, Ar1, -, S1, M1, -, -⟩ := id hVc
  obtain ⟨_, _, ⟨T2, L2, k2, n2⟩, -, X2, ⟨Lc2, hQ2, l2, y2, z2⟩, st2⟩ := X0.specialBack hx (y := (⟨"java/lang/String", "<init>", "([CIILjava/lang/Void;)V"⟩ : MethodName)) rfl hown (mvT hZ (own_k hw 12 rfl)) (mvT hZ (own_k hw 13 rfl)) (mvT hZ (own_k hw 15 rfl)) (by decide) (backOf (W := 0) (rmF41 l Z a0 hw [] a1 a2 kc c0 G1 h0 n0 Z0 hE hF1 hF2 hG1 hS (hG) hO hSa hSh hSl hVc (hH0)) hZ (own_k hw 15 rfl) (own_k hw 7 rfl) (by decide) (by decide)) (g := (mkF m 6 #[.val (.ref a1), .val (.ref a2)] [.null, (.int (1 : Int32)), (.int (0 : Int32)), (.ref a2), (.ref a1)])) rfl (by rw [hml]; rfl) (Steps.refl _) (a := a1) (argsL := [(.ref a2), (.int (0 : Int32)), (.int (1 : Int32)), .null]) (rest := []) (lenOf own_pd_12 rfl) rfl (by show 2 * 0 + _ ≤ _; exact Nat.le_of_eq rfl) (hb hby d2_6) (fun _ _ => ⟨rfl, e0, (by decide : 0 + 2 ≤ _), (by decide : 0 + 3 ≤ _)⟩)
  dsimp only [Pt.U, Pt.locs, Pt.cells, Pt.slots] at X2 l2 y2 z2 st2 hQ2
  subst l2
  subst y2 z2
  obtain ⟨tt_2, k0_2, cc_2, ll_2, vv_2, Nq2, Kq2, p2_0, p2_1, p2_2, p2_3, p2_4, p2_5, hv2⟩ := hQ2
  have N2 := Fr.app N0 Nq2
  have g_tt_2 : n0 ≤ tt_2 := Nat.le_trans Z0 p2_4
  have sz_tt_2 : h0.size ≤ tt_2 := Nat.le_trans (Keep.refl h0 [a1]).1 p2_4
  have K3 : Keep h0 T2.heap [a1] := (Keep.refl h0 [a1]).trans Kq2 (allS (Or.inl (List.mem_of_getElem? (i := 0) rfl)) all0)
  subst hv2
  obtain ⟨fs, hr, hrun, hended, hW, hsame⟩ := X2.leave (v := none) (fun _ => rfl)
  refine ⟨_, _, pre0 _ ?_, hrun, hended, _, _, rfl, ?_, ⟨_, rfl⟩, hW, hsame.mono (by decide) (by decide)⟩
  · show Steps p.tables e below (s₁.setTop (mkF m 0 #[.val (.ref a1), .val (.ref a2)] [])) _
    refine XS.aloadN X0.here hx rfl (hb hby d2_0) rfl rfl ?_
    show Steps p.tables e below (s₁.setTop (mkF m 1 #[.val (.ref a1), .val (.ref a2)] [(.ref a1)])) _
    refine XS.aloadN X0.here hx rfl (hb hby d2_1) rfl rfl ?_
    show Steps p.tables e below (s₁.setTop (mkF m 2 #[.val (.ref a1), .val (.ref a2)] [(.ref a2), (.ref a1)])) _
    refine XS.iconst X0.here hx rfl (hb hby d2_2) ?_
    show Steps p.tables e below (s₁.setTop (mkF m 3 #[.val (.ref a1), .val (.ref a2)] [(.int (0 : Int32)), (.ref a2), (.ref a1)])) _
    refine XS.aloadN X0.here hx rfl (hb hby d2_3) rfl rfl ?_
    show Steps p.tables e below (s₁.setTop (mkF m 4 #[.val (.ref a1), .val (.ref a2)] [(.ref a2), (.int (0 : Int32)), (.ref a2), (.ref a1)])) _
    refine X0.arraylength hx (by rw [e0]; exact Ar1.1) (State.isArrayOf_alike hZ.alike Ar1.2.1) (g := (mkF m 4 #[.val (.ref a1), .val (.ref a2)] [(.ref a2), (.int (0 : Int32)), (.ref a2), (.ref a1)])) rfl rfl (hb hby d2_4) _ ?_
    rw [len_of S1 M1]
    show Steps p.tables e below (s₁.setTop (mkF m 5 #[.val (.ref a1), .val (.ref a2)] [(.int (1 : Int32)), (.int (0 : Int32)), (.ref a2), (.ref a1)])) _
    refine XS.aconstNull X0.here hx rfl (hb hby d2_5) ?_
    show Steps p.tables e below (s₁.setTop (mkF m 6 #[.val (.ref a1), .val (.ref a2)] [.null, (.int (1 : Int32)), (.int (0 : Int32)), (.ref a2), (.ref a1)])) _
    refine st2.trans ?_
    show Steps p.tables e below (T2.setTop (mkF m 9 #[.val (.ref a1), .val (.ref a2)] [])) _
    exact X2.returnOut hx Bd.returns (hb hby d2_9) hr
  · show Qf11 Z a1 a2 kc c0 G1 h0 n0 _ T2.heap _
    exact ⟨tt_2, k0_2, cc_2, ll_2, vv_2, N2, K3, p2_0, p2_1, p2_2, p2_3, sz_tt_2, p2_5, rfl⟩
theorem ef_f42 (m : MethodId) (a1 : Addr) (a2 : Addr) : entryFrame m #[(.ref a1), (.ref a2), (.int (0 : Int32)), (.int (2 : Int32)), .null] 6 = mkF m 0 #[.val (.ref a1), .val (.ref a2), .val (.int (0 : Int32)), .val (.int (2 : Int32)), .val .null, .unset] [] := by first | (simp [entryFrame, mkF, argsToLocals, Value.category]; done) | rfl
def Qf42 (Z : State) (a1 : Addr) (a2 : Addr) (kc : ClassId) (c0 : Int32) (c1 : Int32) (G1 : Int32) (h0 : Heap) (n0 : Nat) (v : Option Value) (h : Heap) (L : List Loc) : Prop := ∃ (tt : Addr) (k0 : ClassId) (cc : Int32) (ll : Int32) (vv : List Value), Fr n0 L ∧ Keep h0 h [a1] ∧ Exa Z h a1 "java/lang/String" ∧ Fld Z h a1 "java/lang/String" "coder" "B" (.int cc) ∧ Fld Z h a1 "java/lang/String" "value" "[B" (.ref tt) ∧ Arv Z h tt k0 .byte ll vv (.int (0 : Int32)) ∧ h0.size ≤ tt ∧ own_Rep (2 : Int32) c0 c1 cc ll vv ∧ (v = none)
set_option maxRecDepth 65536 in
set_option maxHeartbeats 40000000 in
theorem rmF42 (l : Launch) (Z : State) (a0 : Array Value) (hw : ∀ d ∈ tables_1, d.before a0 Z = true) (ws : List Jvm.Cond) (a1 : Addr) (a2 : Addr) (kc : ClassId) (c0 : Int32) (c1 : Int32) (G1 : Int32) (h0 : Heap) (n0 : Nat) (Z0 : n0 ≤ h0.size) (hE : Exa Z h0 a1 "java/lang/String") (hF1 : Fld Z h0 a1 "java/lang/String" "value" "[B" .null) (hF2 : Fld Z h0 a1 "java/lang/String" "coder" "B" (.int (0 : Int32))) (hG1 : n0 ≤ a1) (hS : Sta Z Z.heap "java/lang/String" "COMPACT_STRINGS" "Z" (.int G1)) (hG : ¬ (G1 = (0 : Int32))) (hO : Old Z n0 h0) (hSa : Sta Z Z.heap "java/lang/StringUTF16" "$assertionsDisabled" "Z" (.int (1 : Int32))) (hSh : Sta Z Z.heap "java/lang/StringUTF16" "HI_BYTE_SHIFT" "I" (.int (0 : Int32))) (hSl : Sta Z Z.heap "java/lang/StringUTF16" "LO_BYTE_SHIFT" "I" (.int (8 : Int32))) (hVc : Arv Z h0 a2 kc .char (2 : Int32) [(.int c0), (.int c1)] (.int (0 : Int32))) (hH0 : own_H c0) (hH1 : own_H c1) :
    MetFree l (⟨"java/lang/String", "<init>", "([CIILjava/lang/Void;)V"⟩ : MethodName) (head1 (Jvm.Cond.code (⟨"java/lang/String", "<init>", "([CIILjava/lang/Void;)V"⟩ : MethodName) jdk_42_method_149_code 6 none :: ws) ({ frames := 4, cells := 2, slots := 6, locals := 57 } : Room)) (fun a U => a = #[(.ref a1), (.ref a2), (.int (0 : Int32)), (.int (2 : Int32)), .null] ∧ Z.Warmed39 U.vm ∧ U.heap = h0) (fun _ _ _ _ _ => True) (fun _ U o U' => ∃ v L, o = .returned v ∧ Qf42 Z a1 a2 kc c0 c1 G1 h0 n0 v U'.heap L ∧ FrameEnd U o U' L ({ frames := 4, cells := 2, slots := 6, locals := 57 } : Room).cells ({ frames := 4, cells := 2, slots := 6, locals := 57 } : Room).slots) := by
  refine MetFree.of_bodySF (plainFor_of_name own_pn_5) hisR ?_
  intro p e s m args below meth c s₁ Bd hml0 hP hK
  obtain ⟨rfl, hZ, hh⟩ := hP
  have hx := Bd.exec
  have hby := Bd.bytes
  have hml : c.maxLocals = 6 := hml0
  have hown : s.vm.findClass "java/lang/String" = some m.cls := findClass_of_methodNamed Bd.named
  have hnm := (name_of_methodNamed Bd.named Bd.method).1
  have X0 : Stand p l e ({ frames := 4, cells := 2, slots := 6, locals := 57 } : Room) s m #[(.ref a1), (.ref a2), (.int (0 : Int32)), (.int (2 : Int32)), .null] below meth c s₁ [] 0 0 := Stand.of_body Bd
  have e0 : s₁.heap = h0 := by rw [← hh, Bd.state]; rfl
  have N0 := Fr.nil n0
  have pre0 : ∀ t, Steps p.tables e below (s₁.setTop (mkF m 0 #[.val (.ref a1), .val (.ref a2), .val (.int (0 : Int32)), .val (.int (2 : Int32)), .val .null, .unset] [])) t → Steps p.tables e below (s₁.setTop (entryFrame m #[(.ref a1), (.ref a2), (.int (0 : Int32)), (.int (2 : Int32)), .null] 6)) t := fun t k => castTop (ef_f42 m a1 a2) k
  obtain ⟨T1, X1, e1, st1⟩ := initO X0 hx hZ hown (own_k hw 16 rfl) (own_k hw 17 rfl) (own_k hw 18 rfl) e0 (g := (mkF m 1 #[.val (.ref a1), .val (.ref a2), .val (.int (0 : Int32)), .val (.int (2 : Int32)), .val .null, .unset] [(.ref a1)])) rfl (by rw [hml]; rfl) rfl (hb hby d3_1) (by decide) (W := 0) (by show 2 * 0 + _ ≤ _; exact Nat.le_of_eq rfl) (by decide)
  obtain ⟨T2, X2, e2, st2⟩ := getS2 X1 hx hZ hown (host := "") (Or.inl (own_k hw 19 rfl)) Via.refl e1 (hS.ext hO.2) (g := (mkF m 27 #[.val (.ref a1), .val (.ref a2), .val (.int (0 : Int32)), .val (.int (2 : Int32)), .val .null, .unset] [])) rfl (hb hby d3_27)
  have pre3 : ∀ t, Steps p.tables e below (T2.setTop (mkF m 36 #[.val (.ref a1), .val (.ref a2), .val (.int (0 : Int32)), .val (.int (2 : Int32)), .val .null, .unset] [(.int (2 : Int32)), (.int (0 : Int32)), (.ref a2)])) t → Steps p.tables e below (s₁.setTop (entryFrame m #[(.ref a1), (.ref a2), (.int (0 : Int32)), (.int (2 : Int32)), .null] 6)) t := fun t kt => pre0 t (by
    show Steps p.tables e below (s₁.setTop (mkF m 0 #[.val (.ref a1), .val (.ref a2), .val (.int (0 : Int32)), .val (.int (2 : Int32)), .val .null, .unset] [])) _
    refine XS.aloadN X0.here hx rfl (hb hby d3_0) rfl rfl ?_
    show Steps p.tables e below (s₁.setTop (mkF m 1 #[.val (.ref a1), .val (.ref a2), .val (.int (0 : Int32)), .val (.int (2 : Int32)), .val .null, .unset] [(.ref a1)])) _
    refine st1 _ ?_
    show Steps p.tables e below (T1.setTop (mkF m 4 #[.val (.ref a1), .val (.ref a2), .val (.int (0 : Int32)), .val (.int (2 : Int32)), .val .null, .unset] [])) _
    refine XS.iloadN X1.here hx rfl (hb hby d3_4) rfl ?_
    show Steps p.tables e below (T1.setTop (mkF m 5 #[.val (.ref a1), .val (.ref a2), .val (.int (0 : Int32)), .val (.int (2 : Int32)), .val .null, .unset] [(.int (2 : Int32))])) _
    refine XS.ifYes X1.here hx rfl (pc0 := 5) (pc' := 27) rfl (hb hby d3_5) rfl (by decide) (by decide) (by decide) ?_
    show Steps p.tables e below (T1.setTop (mkF m 27 #[.val (.ref a1), .val (.ref a2), .val (.int (0 : Int32)), .val (.int (2 : Int32)), .val .null, .unset] [])) _
    refine st2 _ ?_
    show Steps p.tables e below (T2.setTop (mkF m 30 #[.val (.ref a1), .val (.ref a2), .val (.int (0 : Int32)), .val (.int (2 : Int32)), .val .null, .unset] [(.int G1)])) _
    refine XS.ifNo X2.here hx rfl (hb hby d3_30) rfl ((if0 _ _).trans (feq hG).1) ?_
    show Steps p.tables e below (T2.setTop (mkF m 33 #[.val (.ref a1), .val (.ref a2), .val (.int (0 : Int32)), .val (.int (2 : Int32)), .val .null, .unset] [])) _
    refine XS.aloadN X2.here hx rfl (hb hby d3_33) rfl rfl ?_
    show Steps p.tables e below (T2.setTop (mkF m 34 #[.val (.ref a1), .val (.ref a2), .val (.int (0 : Int32)), .val (.int (2 : Int32)), .val .null, .unset] [(.ref a2)])) _
    refine XS.iloadN X2.here hx rfl (hb hby d3_34) rfl ?_
    show Steps p.tables e below (T2.setTop (mkF m 35 #[.val (.ref a1), .val (.ref a2), .val (.int (0 : Int32)), .val (.int (2 : Int32)), .val .null, .unset] [(.int (0 : Int32)), (.ref a2)])) _
    refine XS.iloadN X2.here hx rfl (hb hby d3_35) rfl ?_
    exact kt)
  by_cases hg4 : (255 : Int32) < c0
  · skip
    obtain ⟨_, _, ⟨T5, L5, k5, n5⟩, -, X5, ⟨Lc5, hQ5, l5, y5, z5⟩, st5⟩ := Jvm.LawKit.callS X2 hx (y := (⟨"java/lang/StringUTF16", "compress", "([CII)[B"⟩ : MethodName)) hown (mvT hZ (own_k hw 20 rfl)) (mvT hZ (own_k hw 21 rfl)) (mvT hZ (own_k hw 22 rfl)) (mvT hZ (own_k hw 23 rfl)) (by decide) (backOf (W := 0) (rmCm2u l Z a0 hw [] a2 kc c0 c1 h0 n0 Z0 hSa hSh hSl hO hVc (hg4) (hH0) (hH1)) hZ (own_k hw 23 rfl) (own_k hw 22 rfl) (by decide) (by decide)) (g := (mkF m 36 #[.val (.ref a1), .val (.ref a2), .val (.int (0 : Int32)), .val (.int (2 : Int32)), .val .null, .unset] [(.int (2 : Int32)), (.int (0 : Int32)), (.ref a2)])) rfl (by rw [hml]; rfl) (argsL := [(.ref a2), (.int (0 : Int32)), (.int (2 : Int32))]) (rest := []) (lenOf own_pd_10 rfl) rfl (by show 2 * 0 + _ ≤ _; exact Nat.le_of_eq rfl) (hb hby d3_36) (fun _ _ => ⟨rfl, e2, (by decide : 0 + 2 ≤ _), (by decide : 0 + 6 ≤ _)⟩)
    dsimp only [Pt.U, Pt.locs, Pt.cells, Pt.slots] at X5 l5 y5 z5 st5 hQ5
    subst l5
    subst y5 z5
    obtain ⟨bb_5, k0_5, Nq5, Kq5, p5_0, p5_1, hv5⟩ := hQ5
    have N5 := Fr.app N0 Nq5
    have g_bb_5 : n0 ≤ bb_5 := Nat.le_trans Z0 p5_0
    have sz_bb_5 : h0.size ≤ bb_5 := Nat.le_trans (Keep.refl h0 [a1]).1 p5_0
    have K6 : Keep h0 T5.heap [a1] := (Keep.refl h0 [a1]).trans Kq5 all0
    subst hv5
    have f8 : n0 ≤ T5.heap.size := (Nat.le_trans Z0 Kq5.1)
    obtain ⟨_, _, ⟨T7, L7, k7, n7⟩, -, X7, ⟨Lc7, hQ7, l7, y7, z7⟩, st7⟩ := Jvm.LawKit.callS X5 hx (y := (⟨"java/lang/StringUTF16", "coderFromArrayLen", "([BI)B"⟩ : MethodName)) hown (mvT hZ (own_k hw 28 rfl)) (mvT hZ (own_k hw 29 rfl)) (mvT hZ (own_k hw 22 rfl)) (mvT hZ (own_k hw 30 rfl)) (by decide) (backOf (W := 1) (rmCf42 l Z a0 hw [] bb_5 k0_5 (((c0 >>> ((0 : Int32) &&& 31)).toInt8.toInt32).toInt8.toInt32) (((c0 >>> ((8 : Int32) &&& 31)).toInt8.toInt32).toInt8.toInt32) (((c1 >>> ((0 : Int32) &&& 31)).toInt8.toInt32).toInt8.toInt32) (((c1 >>> ((8 : Int32) &&& 31)).toInt8.toInt32).toInt8.toInt32) T5.heap n0 f8 p5_1) hZ (own_k hw 30 rfl) (own_k hw 22 rfl) (by decide) (by decide)) (g := (mkF m 45 #[.val (.ref a1), .val (.ref a2), .val (.int (0 : Int32)), .val (.int (2 : Int32)), .val .null, .val (.ref bb_5)] [(.int (2 : Int32)), (.ref bb_5), (.ref a1)])) rfl (by rw [hml]; rfl) (argsL := [(.ref bb_5), (.int (2 : Int32))]) (rest := [(.ref a1)]) (lenOf own_pd_11 rfl) rfl (by show 2 * 0 + _ ≤ _; exact Nat.le_of_eq rfl) (hb hby d3_45) (fun _ _ => ⟨rfl, rfl, (by decide : 2 + 0 ≤ _), (by decide : 6 + 0 ≤ _)⟩)
    dsimp only [Pt.U, Pt.locs, Pt.cells, Pt.slots] at X7 l7 y7 z7 st7 hQ7
    subst l7
    subst y7 z7
    obtain ⟨Nq7, eh7, hv7⟩ := hQ7
    have N7 := Fr.app N5 Nq7
    subst hv7
    have f9 : Fld Z T5.heap a1 "java/lang/String" "coder" "B" (.int (0 : Int32)) := (hF2.keep Kq5 nin0)
    have f10 : Exa Z T5.heap a1 "java/lang/String" := (hE.keep Kq5)
    obtain ⟨T11, h11, X11, e11, W11, st11⟩ := putFN X7 hx hZ hown (own_k hw 31 rfl) Via.refl eh7 f9 f10 (Or.inr ⟨(own_k hw 32 rfl), rfl, hnm⟩) (own_k hw 6 rfl) (ty := .byte) (v' := (.int (1 : Int32))) (by decide) rfl rfl (g := (mkF m 48 #[.val (.ref a1), .val (.ref a2), .val (.int (0 : Int32)), .val (.int (2 : Int32)), .val .null, .val (.ref bb_5)] [(.int (1 : Int32)), (.ref a1)])) rfl rfl (hb hby d3_48)
    have N11 := Fr.snoc X11 N7 hG1
    have K12 : Keep h0 h11 [a1] := K6.wr W11 (Or.inl (List.mem_of_getElem? (i := 0) rfl))
    have Fw11 : Fld Z h11 a1 "java/lang/String" "coder" "B" (.int (1 : Int32)) := f9.same W11
    have f13 : Fld Z h11 a1 "java/lang/String" "value" "[B" .null := ((hF1.keep Kq5 nin0).other W11 (Or.inr (slot_ne (Or.inr (own_k hw 34 rfl)) (Or.inr (own_k hw 32 rfl)) (by decide) (t := (.array .byte)) (t' := .byte) (by decide) (by decide))))
    have f14 : Exa Z h11 a1 "java/lang/String" := (f10.wr W11)
    obtain ⟨T15, h15, X15, e15, W15, st15⟩ := putF X11 hx hZ hown (host := "") (Or.inl (own_k hw 33 rfl)) Via.refl e11 f13 f14 (Or.inr ⟨(own_k hw 34 rfl), rfl, hnm⟩) (own_k hw 6 rfl) (ty := (.array .byte)) (by decide) rfl rfl (g := (mkF m 54 #[.val (.ref a1), .val (.ref a2), .val (.int (0 : Int32)), .val (.int (2 : Int32)), .val .null, .val (.ref bb_5)] [(.ref bb_5), (.ref a1)])) rfl rfl (hb hby d3_54)
    have N15 := Fr.snoc X15 N11 hG1
    have K16 : Keep h0 h15 [a1] := K12.wr W15 (Or.inl (List.mem_of_getElem? (i := 0) rfl))
    have Fw15 : Fld Z h15 a1 "java/lang/String" "value" "[B" (.ref bb_5) := f13.same W15
    have f17 : Exa Z h15 a1 "java/lang/String" := (f14.wr W15)
    have f18 : Fld Z h15 a1 "java/lang/String" "coder" "B" (.int (1 : Int32)) := (Fw11.other W15 (Or.inr (slot_ne (Or.inr (own_k hw 32 rfl)) (Or.inr (own_k hw 34 rfl)) (by decide) (t := .byte) (t' := (.array .byte)) (by decide) (by decide))))
    have f19 : Arv Z h15 bb_5 k0_5 .byte (4 : Int32) [(.int (((c0 >>> ((0 : Int32) &&& 31)).toInt8.toInt32).toInt8.toInt32)), (.int (((c0 >>> ((8 : Int32) &&& 31)).toInt8.toInt32).toInt8.toInt32)), (.int (((c1 >>> ((0 : Int32) &&& 31)).toInt8.toInt32).toInt8.toInt32)), (.int (((c1 >>> ((8 : Int32) &&& 31)).toInt8.toInt32).toInt8.toInt32))] (.int (0 : Int32)) := ((p5_1.other W11 (Ne.symm (Nat.ne_of_lt (Nat.lt_of_lt_of_le hE.lt p5_0)))).other W15 (Ne.symm (Nat.ne_of_lt (Nat.lt_of_lt_of_le hE.lt p5_0))))
    obtain ⟨fs, hr, hrun, hended, hW, hsame⟩ := X15.leave (v := none) (fun _ => rfl)
    refine ⟨_, _, pre3 _ ?_, hrun, hended, _, _, rfl, ?_, ⟨_, rfl⟩, hW, hsame.mono (by decide) (by decide)⟩
    · show Steps p.tables e below (T2.setTop (mkF m 36 #[.val (.ref a1), .val (.ref a2), .val (.int (0 : Int32)), .val (.int (2 : Int32)), .val .null, .unset] [(.int (2 : Int32)), (.int (0 : Int32)), (.ref a2)])) _
      refine st5 _ ?_
      show Steps p.tables e below (T5.setTop (mkF m 39 #[.val (.ref a1), .val (.ref a2), .val (.int (0 : Int32)), .val (.int (2 : Int32)), .val .null, .unset] [(.ref bb_5)])) _
      refine XS.astore X5.here hx rfl (hb hby d3_39) rfl rfl (l' := #[.val (.ref a1), .val (.ref a2), .val (.int (0 : Int32)), .val (.int (2 : Int32)), .val .null, .val (.ref bb_5)]) rfl ?_
      show Steps p.tables e below (T5.setTop (mkF m 41 #[.val (.ref a1), .val (.ref a2), .val (.int (0 : Int32)), .val (.int (2 : Int32)), .val .null, .val (.ref bb_5)] [])) _
      refine XS.aloadN X5.here hx rfl (hb hby d3_41) rfl rfl ?_
      show Steps p.tables e below (T5.setTop (mkF m 42 #[.val (.ref a1), .val (.ref a2), .val (.int (0 : Int32)), .val (.int (2 : Int32)), .val .null, .val (.ref bb_5)] [(.ref a1)])) _
      refine XS.aload X5.here hx rfl (hb hby d3_42) rfl rfl ?_
      show Steps p.tables e below (T5.setTop (mkF m 44 #[.val (.ref a1), .val (.ref a2), .val (.int (0 : Int32)), .val (.int (2 : Int32)), .val .null, .val (.ref bb_5)] [(.ref bb_5), (.ref a1)])) _
      refine XS.iloadN X5.here hx rfl (hb hby d3_44) rfl ?_
      show Steps p.tables e below (T5.setTop (mkF m 45 #[.val (.ref a1), .val (.ref a2), .val (.int (0 : Int32)), .val (.int (2 : Int32)), .val .null, .val (.ref bb_5)] [(.int (2 : Int32)), (.ref bb_5), (.ref a1)])) _
      refine st7 _ ?_
      show Steps p.tables e below (T7.setTop (mkF m 48 #[.val (.ref a1), .val (.ref a2), .val (.int (0 : Int32)), .val (.int (2 : Int32)), .val .null, .val (.ref bb_5)] [(.int (1 : Int32)), (.ref a1)])) _
      refine st11 _ ?_
      show Steps p.tables e below (T11.setTop (mkF m 51 #[.val (.ref a1), .val (.ref a2), .val (.int (0 : Int32)), .val (.int (2 : Int32)), .val .null, .val (.ref bb_5)] [])) _
      refine XS.aloadN X11.here hx rfl (hb hby d3_51) rfl rfl ?_
      show Steps p.tables e below (T11.setTop (mkF m 52 #[.val (.ref a1), .val (.ref a2), .val (.int (0 : Int32)), .val (.int (2 : Int32)), .val .null, .val (.ref bb_5)] [(.ref a1)])) _
      refine XS.aload X11.here hx rfl (hb hby d3_52) rfl rfl ?_
      show Steps p.tables e below (T11.setTop (mkF m 54 #[.val (.ref a1), .val (.ref a2), .val (.int (0 : Int32)), .val (.int (2 : Int32)), .val .null, .val (.ref bb_5)] [(.ref bb_5), (.ref a1)])) _
      refine st15 _ ?_
      show Steps p.tables e below (T15.setTop (mkF m 57 #[.val (.ref a1), .val (.ref a2), .val (.int (0 : Int32)), .val (.int (2 : Int32)), .val .null, .val (.ref bb_5)] [])) _
      exact X15.returnOut hx Bd.returns (hb hby d3_57) hr
    · show Qf42 Z a1 a2 kc c0 c1 G1 h0 n0 _ T15.heap _
      rw [e15]
      exact ⟨bb_5, k0_5, (1 : Int32), (4 : Int32), [(.int (((c0 >>> ((0 : Int32) &&& 31)).toInt8.toInt32).toInt8.toInt32)), (.int (((c0 >>> ((8 : Int32) &&& 31)).toInt8.toInt32).toInt8.toInt32)), (.int (((c1 >>> ((0 : Int32) &&& 31)).toInt8.toInt32).toInt8.toInt32)), (.int (((c1 >>> ((8 : Int32) &&& 31)).toInt8.toInt32).toInt8.toInt32))], N15, K16, f17, f18, Fw15, f19, sz_bb_5, (Or.inr (Or.inr (Or.inr (Or.inr ⟨rfl, rfl, rfl, rfl⟩)))), rfl⟩
  · skip
    by_cases hg20 : (255 : Int32) < c1
    · skip
      obtain ⟨_, _, ⟨T21, L21, k21, n21⟩, -, X21, ⟨Lc21, hQ21, l21, y21, z21⟩, st21⟩ := Jvm.LawKit.callS X2 hx (y := (⟨"java/lang/StringUTF16", "compress", "([CII)[B"⟩ : MethodName)) hown (mvT hZ (own_k hw 20 rfl)) (mvT hZ (own_k hw 21 rfl)) (mvT hZ (own_k hw 22 rfl)) (mvT hZ (own_k hw 23 rfl)) (by decide) (backOf (W := 0) (rmCm2v l Z a0 hw [] a2 kc c0 c1 h0 n0 Z0 hSa hSh hSl hO hVc (hg4) (hg20) (hH0) (hH1)) hZ (own_k hw 23 rfl) (own_k hw 22 rfl) (by decide) (by decide)) (g := (mkF m 36 #[.val (.ref a1), .val (.ref a2), .val (.int (0 : Int32)), .val (.int (2 : Int32)), .val .null, .unset] [(.int (2 : Int32)), (.int (0 : Int32)), (.ref a2)])) rfl (by rw [hml]; rfl) (argsL := [(.ref a2), (.int (0 : Int32)), (.int (2 : Int32))]) (rest := []) (lenOf own_pd_10 rfl) rfl (by show 2 * 0 + _ ≤ _; exact Nat.le_of_eq rfl) (hb hby d3_36) (fun _ _ => ⟨rfl, e2, (by decide : 0 + 2 ≤ _), (by decide : 0 + 6 ≤ _)⟩)
      dsimp only [Pt.U, Pt.locs, Pt.cells, Pt.slots] at X21 l21 y21 z21 st21 hQ21
      subst l21
      subst y21 z21
      obtain ⟨bb_21, k0_21, Nq21, Kq21, p21_0, p21_1, hv21⟩ := hQ21
      have N21 := Fr.app N0 Nq21
      have g_bb_21 : n0 ≤ bb_21 := Nat.le_trans Z0 p21_0
      have sz_bb_21 : h0.size ≤ bb_21 := Nat.le_trans (Keep.refl h0 [a1]).1 p21_0
      have K22 : Keep h0 T21.heap [a1] := (Keep.refl h0 [a1]).trans Kq21 all0
      subst hv21
      have f24 : n0 ≤ T21.heap.size := (Nat.le_trans Z0 Kq21.1)
      obtain ⟨_, _, ⟨T23, L23, k23, n23⟩, -, X23, ⟨Lc23, hQ23, l23, y23, z23⟩, st23⟩ := Jvm.LawKit.callS X21 hx (y := (⟨"java/lang/StringUTF16", "coderFromArrayLen", "([BI)B"⟩ : MethodName)) hown (mvT hZ (own_k hw 28 rfl)) (mvT hZ (own_k hw 29 rfl)) (mvT hZ (own_k hw 22 rfl)) (mvT hZ (own_k hw 30 rfl)) (by decide) (backOf (W := 1) (rmCf42 l Z a0 hw [] bb_21 k0_21 (((c0 >>> ((0 : Int32) &&& 31)).toInt8.toInt32).toInt8.toInt32) (((c0 >>> ((8 : Int32) &&& 31)).toInt8.toInt32).toInt8.toInt32) (((c1 >>> ((0 : Int32) &&& 31)).toInt8.toInt32).toInt8.toInt32) (((c1 >>> ((8 : Int32) &&& 31)).toInt8.toInt32).toInt8.toInt32) T21.heap n0 f24 p21_1) hZ (own_k hw 30 rfl) (own_k hw 22 rfl) (by decide) (by decide)) (g := (mkF m 45 #[.val (.ref a1), .val (.ref a2), .val (.int (0 : Int32)), .val (.int (2 : Int32)), .val .null, .val (.ref bb_21)] [(.int (2 : Int32)), (.ref bb_21), (.ref a1)])) rfl (by rw [hml]; rfl) (argsL := [(.ref bb_21), (.int (2 : Int32))]) (rest := [(.ref a1)]) (lenOf own_pd_11 rfl) rfl (by show 2 * 0 + _ ≤ _; exact Nat.le_of_eq rfl) (hb hby d3_45) (fun _ _ => ⟨rfl, rfl, (by decide : 2 + 0 ≤ _), (by decide : 6 + 0 ≤ _)⟩)
      dsimp only [Pt.U, Pt.locs, Pt.cells, Pt.slots] at X23 l23 y23 z23 st23 hQ23
      subst l23
      subst y23 z23
      obtain ⟨Nq23, eh23, hv23⟩ := hQ23
      have N23 := Fr.app N21 Nq23
      subst hv23
      have f25 : Fld Z T21.heap a1 "java/lang/String" "coder" "B" (.int (0 : Int32)) := (hF2.keep Kq21 nin0)
      have f26 : Exa Z T21.heap a1 "java/lang/String" := (hE.keep Kq21)
      obtain ⟨T27, h27, X27, e27, W27, st27⟩ := putFN X23 hx hZ hown (own_k hw 31 rfl) Via.refl eh23 f25 f26 (Or.inr ⟨(own_k hw 32 rfl), rfl, hnm⟩) (own_k hw 6 rfl) (ty := .byte) (v' := (.int (1 : Int32))) (by decide) rfl rfl (g := (mkF m 48 #[.val (.ref a1), .val (.ref a2), .val (.int (0 : Int32)), .val (.int (2 : Int32)), .val .null, .val (.ref bb_21)] [(.int (1 : Int32)), (.ref a1)])) rfl rfl (hb hby d3_48)
      have N27 := Fr.snoc X27 N23 hG1
      have K28 : Keep h0 h27 [a1] := K22.wr W27 (Or.inl (List.mem_of_getElem? (i := 0) rfl))
      have Fw27 : Fld Z h27 a1 "java/lang/String" "coder" "B" (.int (1 : Int32)) := f25.same W27
      have f29 : Fld Z h27 a1 "java/lang/String" "value" "[B" .null := ((hF1.keep Kq21 nin0).other W27 (Or.inr (slot_ne (Or.inr (own_k hw 34 rfl)) (Or.inr (own_k hw 32 rfl)) (by decide) (t := (.array .byte)) (t' := .byte) (by decide) (by decide))))
      have f30 : Exa Z h27 a1 "java/lang/String" := (f26.wr W27)
      obtain ⟨T31, h31, X31, e31, W31, st31⟩ := putF X27 hx hZ hown (host := "") (Or.inl (own_k hw 33 rfl)) Via.refl e27 f29 f30 (Or.inr ⟨(own_k hw 34 rfl), rfl, hnm⟩) (own_k hw 6 rfl) (ty := (.array .byte)) (by decide) rfl rfl (g := (mkF m 54 #[.val (.ref a1), .val (.ref a2), .val (.int (0 : Int32)), .val (.int (2 : Int32)), .val .null, .val (.ref bb_21)] [(.ref bb_21), (.ref a1)])) rfl rfl (hb hby d3_54)
      have N31 := Fr.snoc X31 N27 hG1
      have K32 : Keep h0 h31 [a1] := K28.wr W31 (Or.inl (List.mem_of_getElem? (i := 0) rfl))
      have Fw31 : Fld Z h31 a1 "java/lang/String" "value" "[B" (.ref bb_21) := f29.same W31
      have f33 : Exa Z h31 a1 "java/lang/String" := (f30.wr W31)
      have f34 : Fld Z h31 a1 "java/lang/String" "coder" "B" (.int (1 : Int32)) := (Fw27.other W31 (Or.inr (slot_ne (Or.inr (own_k hw 32 rfl)) (Or.inr (own_k hw 34 rfl)) (by decide) (t := .byte) (t' := (.array .byte)) (by decide) (by decide))))
      have f35 : Arv Z h31 bb_21 k0_21 .byte (4 : Int32) [(.int (((c0 >>> ((0 : Int32) &&& 31)).toInt8.toInt32).toInt8.toInt32)), (.int (((c0 >>> ((8 : Int32) &&& 31)).toInt8.toInt32).toInt8.toInt32)), (.int (((c1 >>> ((0 : Int32) &&& 31)).toInt8.toInt32).toInt8.toInt32)), (.int (((c1 >>> ((8 : Int32) &&& 31)).toInt8.toInt32).toInt8.toInt32))] (.int (0 : Int32)) := ((p21_1.other W27 (Ne.symm (Nat.ne_of_lt (Nat.lt_of_lt_of_le hE.lt p21_0)))).other W31 (Ne.symm (Nat.ne_of_lt (Nat.lt_of_lt_of_le hE.lt p21_0))))
      obtain ⟨fs, hr, hrun, hended, hW, hsame⟩ := X31.leave (v := none) (fun _ => rfl)
      refine ⟨_, _, pre3 _ ?_, hrun, hended, _, _, rfl, ?_, ⟨_, rfl⟩, hW, hsame.mono (by decide) (by decide)⟩
      · show Steps p.tables e below (T2.setTop (mkF m 36 #[.val (.ref a1), .val (.ref a2), .val (.int (0 : Int32)), .val (.int (2 : Int32)), .val .null, .unset] [(.int (2 : Int32)), (.int (0 : Int32)), (.ref a2)])) _
        refine st21 _ ?_
        show Steps p.tables e below (T21.setTop (mkF m 39 #[.val (.ref a1), .val (.ref a2), .val (.int (0 : Int32)), .val (.int (2 : Int32)), .val .null, .unset] [(.ref bb_21)])) _
        refine XS.astore X21.here hx rfl (hb hby d3_39) rfl rfl (l' := #[.val (.ref a1), .val (.ref a2), .val (.int (0 : Int32)), .val (.int (2 : Int32)), .val .null, .val (.ref bb_21)]) rfl ?_
        show Steps p.tables e below (T21.setTop (mkF m 41 #[.val (.ref a1), .val (.ref a2), .val (.int (0 : Int32)), .val (.int (2 : Int32)), .val .null, .val (.ref bb_21)] [])) _
        refine XS.aloadN X21.here hx rfl (hb hby d3_41) rfl rfl ?_
        show Steps p.tables e below (T21.setTop (mkF m 42 #[.val (.ref a1), .val (.ref a2), .val (.int (0 : Int32)), .val (.int (2 : Int32)), .val .null, .val (.ref bb_21)] [(.ref a1)])) _
        refine XS.aload X21.here hx rfl (hb hby d3_42) rfl rfl ?_
        show Steps p.tables e below (T21.setTop (mkF m 44 #[.val (.ref a1), .val (.ref a2), .val (.int (0 : Int32)), .val (.int (2 : Int32)), .val .null, .val (.ref bb_21)] [(.ref bb_21), (.ref a1)])) _
        refine XS.iloadN X21.here hx rfl (hb hby d3_44) rfl ?_
        show Steps p.tables e below (T21.setTop (mkF m 45 #[.val (.ref a1), .val (.ref a2), .val (.int (0 : Int32)), .val (.int (2 : Int32)), .val .null, .val (.ref bb_21)] [(.int (2 : Int32)), (.ref bb_21), (.ref a1)])) _
        refine st23 _ ?_
        show Steps p.tables e below (T23.setTop (mkF m 48 #[.val (.ref a1), .val (.ref a2), .val (.int (0 : Int32)), .val (.int (2 : Int32)), .val .null, .val (.ref bb_21)] [(.int (1 : Int32)), (.ref a1)])) _
        refine st27 _ ?_
        show Steps p.tables e below (T27.setTop (mkF m 51 #[.val (.ref a1), .val (.ref a2), .val (.int (0 : Int32)), .val (.int (2 : Int32)), .val .null, .val (.ref bb_21)] [])) _
        refine XS.aloadN X27.here hx rfl (hb hby d3_51) rfl rfl ?_
        show Steps p.tables e below (T27.setTop (mkF m 52 #[.val (.ref a1), .val (.ref a2), .val (.int (0 : Int32)), .val (.int (2 : Int32)), .val .null, .val (.ref bb_21)] [(.ref a1)])) _
        refine XS.aload X27.here hx rfl (hb hby d3_52) rfl rfl ?_
        show Steps p.tables e below (T27.setTop (mkF m 54 #[.val (.ref a1), .val (.ref a2), .val (.int (0 : Int32)), .val (.int (2 : Int32)), .val .null, .val (.ref bb_21)] [(.ref bb_21), (.ref a1)])) _
        refine st31 _ ?_
        show Steps p.tables e below (T31.setTop (mkF m 57 #[.val (.ref a1), .val (.ref a2), .val (.int (0 : Int32)), .val (.int (2 : Int32)), .val .null, .val (.ref bb_21)] [])) _
        exact X31.returnOut hx Bd.returns (hb hby d3_57) hr
      · show Qf42 Z a1 a2 kc c0 c1 G1 h0 n0 _ T31.heap _
        rw [e31]
        exact ⟨bb_21, k0_21, (1 : Int32), (4 : Int32), [(.int (((c0 >>> ((0 : Int32) &&& 31)).toInt8.toInt32).toInt8.toInt32)), (.int (((c0 >>> ((8 : Int32) &&& 31)).toInt8.toInt32).toInt8.toInt32)), (.int (((c1 >>> ((0 : Int32) &&& 31)).toInt8.toInt32).toInt8.toInt32)), (.int (((c1 >>> ((8 : Int32) &&& 31)).toInt8.toInt32).toInt8.toInt32))], N31, K32, f33, f34, Fw31, f35, sz_bb_21, (Or.inr (Or.inr (Or.inr (Or.inr ⟨rfl, rfl, rfl, rfl⟩)))), rfl⟩
    · skip
      obtain ⟨_, _, ⟨T36, L36, k36, n36⟩, -, X36, ⟨Lc36, hQ36, l36, y36, z36⟩, st36⟩ := Jvm.LawKit.callS X2 hx (y := (⟨"java/lang/StringUTF16", "compress", "([CII)[B"⟩ : MethodName)) hown (mvT hZ (own_k hw 20 rfl)) (mvT hZ (own_k hw 21 rfl)) (mvT hZ (own_k hw 22 rfl)) (mvT hZ (own_k hw 23 rfl)) (by decide) (backOf (W := 0) (rmCm2l l Z a0 hw [] a2 kc c0 c1 h0 n0 Z0 hVc (hg4) (hg20) (hH0) (hH1)) hZ (own_k hw 23 rfl) (own_k hw 22 rfl) (by decide) (by decide)) (g := (mkF m 36 #[.val (.ref a1), .val (.ref a2), .val (.int (0 : Int32)), .val (.int (2 : Int32)), .val .null, .unset] [(.int (2 : Int32)), (.int (0 : Int32)), (.ref a2)])) rfl (by rw [hml]; rfl) (argsL := [(.ref a2), (.int (0 : Int32)), (.int (2 : Int32))]) (rest := []) (lenOf own_pd_10 rfl) rfl (by show 2 * 0 + _ ≤ _; exact Nat.le_of_eq rfl) (hb hby d3_36) (fun _ _ => ⟨rfl, e2, (by decide : 0 + 1 ≤ _), (by decide : 0 + 2 ≤ _)⟩)
      dsimp only [Pt.U, Pt.locs, Pt.cells, Pt.slots] at X36 l36 y36 z36 st36 hQ36
      subst l36
      subst y36 z36
      obtain ⟨bb_36, k0_36, Nq36, Kq36, p36_0, p36_1, hv36⟩ := hQ36
      have N36 := Fr.app N0 Nq36
      have g_bb_36 : n0 ≤ bb_36 := Nat.le_trans Z0 p36_0
      have sz_bb_36 : h0.size ≤ bb_36 := Nat.le_trans (Keep.refl h0 [a1]).1 p36_0
      have K37 : Keep h0 T36.heap [a1] := (Keep.refl h0 [a1]).trans Kq36 all0
      subst hv36
      have f39 : n0 ≤ T36.heap.size := (Nat.le_trans Z0 Kq36.1)
      obtain ⟨_, _, ⟨T38, L38, k38, n38⟩, -, X38, ⟨Lc38, hQ38, l38, y38, z38⟩, st38⟩ := Jvm.LawKit.callS X36 hx (y := (⟨"java/lang/StringUTF16", "coderFromArrayLen", "([BI)B"⟩ : MethodName)) hown (mvT hZ (own_k hw 28 rfl)) (mvT hZ (own_k hw 29 rfl)) (mvT hZ (own_k hw 22 rfl)) (mvT hZ (own_k hw 30 rfl)) (by decide) (backOf (W := 1) (rmCf22 l Z a0 hw [] bb_36 k0_36 ((c0.toInt8.toInt32).toInt8.toInt32) ((c1.toInt8.toInt32).toInt8.toInt32) T36.heap n0 f39 p36_1) hZ (own_k hw 30 rfl) (own_k hw 22 rfl) (by decide) (by decide)) (g := (mkF m 45 #[.val (.ref a1), .val (.ref a2), .val (.int (0 : Int32)), .val (.int (2 : Int32)), .val .null, .val (.ref bb_36)] [(.int (2 : Int32)), (.ref bb_36), (.ref a1)])) rfl (by rw [hml]; rfl) (argsL := [(.ref bb_36), (.int (2 : Int32))]) (rest := [(.ref a1)]) (lenOf own_pd_11 rfl) rfl (by show 2 * 0 + _ ≤ _; exact Nat.le_of_eq rfl) (hb hby d3_45) (fun _ _ => ⟨rfl, rfl, (by decide : 1 + 0 ≤ _), (by decide : 2 + 0 ≤ _)⟩)
      dsimp only [Pt.U, Pt.locs, Pt.cells, Pt.slots] at X38 l38 y38 z38 st38 hQ38
      subst l38
      subst y38 z38
      obtain ⟨Nq38, eh38, hv38⟩ := hQ38
      have N38 := Fr.app N36 Nq38
      subst hv38
      have f40 : Fld Z T36.heap a1 "java/lang/String" "coder" "B" (.int (0 : Int32)) := (hF2.keep Kq36 nin0)
      have f41 : Exa Z T36.heap a1 "java/lang/String" := (hE.keep Kq36)
      obtain ⟨T42, h42, X42, e42, W42, st42⟩ := putFN X38 hx hZ hown (own_k hw 31 rfl) Via.refl eh38 f40 f41 (Or.inr ⟨(own_k hw 32 rfl), rfl, hnm⟩) (own_k hw 6 rfl) (ty := .byte) (v' := (.int (0 : Int32))) (by decide) rfl rfl (g := (mkF m 48 #[.val (.ref a1), .val (.ref a2), .val (.int (0 : Int32)), .val (.int (2 : Int32)), .val .null, .val (.ref bb_36)] [(.int (0 : Int32)), (.ref a1)])) rfl rfl (hb hby d3_48)
      have N42 := Fr.snoc X42 N38 hG1
      have K43 : Keep h0 h42 [a1] := K37.wr W42 (Or.inl (List.mem_of_getElem? (i := 0) rfl))
      have Fw42 : Fld Z h42 a1 "java/lang/String" "coder" "B" (.int (0 : Int32)) := f40.same W42
      have f44 : Fld Z h42 a1 "java/lang/String" "value" "[B" .null := ((hF1.keep Kq36 nin0).other W42 (Or.inr (slot_ne (Or.inr (own_k hw 34 rfl)) (Or.inr (own_k hw 32 rfl)) (by decide) (t := (.array .byte)) (t' := .byte) (by decide) (by decide))))
      have f45 : Exa Z h42 a1 "java/lang/String" := (f41.wr W42)
      obtain ⟨T46, h46, X46, e46, W46, st46⟩ := putF X42 hx hZ hown (host := "") (Or.inl (own_k hw 33 rfl)) Via.refl e42 f44 f45 (Or.inr ⟨(own_k hw 34 rfl), rfl, hnm⟩) (own_k hw 6 rfl) (ty := (.array .byte)) (by decide) rfl rfl (g := (mkF m 54 #[.val (.ref a1), .val (.ref a2), .val (.int (0 : Int32)), .val (.int (2 : Int32)), .val .null, .val (.ref bb_36)] [(.ref bb_36), (.ref a1)])) rfl rfl (hb hby d3_54)
      have N46 := Fr.snoc X46 N42 hG1
      have K47 : Keep h0 h46 [a1] := K43.wr W46 (Or.inl (List.mem_of_getElem? (i := 0) rfl))
      have Fw46 : Fld Z h46 a1 "java/lang/String" "value" "[B" (.ref bb_36) := f44.same W46
      have f48 : Exa Z h46 a1 "java/lang/String" := (f45.wr W46)
      have f49 : Fld Z h46 a1 "java/lang/String" "coder" "B" (.int (0 : Int32)) := (Fw42.other W46 (Or.inr (slot_ne (Or.inr (own_k hw 32 rfl)) (Or.inr (own_k hw 34 rfl)) (by decide) (t := .byte) (t' := (.array .byte)) (by decide) (by decide))))
      have f50 : Arv Z h46 bb_36 k0_36 .byte (2 : Int32) [(.int ((c0.toInt8.toInt32).toInt8.toInt32)), (.int ((c1.toInt8.toInt32).toInt8.toInt32))] (.int (0 : Int32)) := ((p36_1.other W42 (Ne.symm (Nat.ne_of_lt (Nat.lt_of_lt_of_le hE.lt p36_0)))).other W46 (Ne.symm (Nat.ne_of_lt (Nat.lt_of_lt_of_le hE.lt p36_0))))
      obtain ⟨fs, hr, hrun, hended, hW, hsame⟩ := X46.leave (v := none) (fun _ => rfl)
      refine ⟨_, _, pre3 _ ?_, hrun, hended, _, _, rfl, ?_, ⟨_, rfl⟩, hW, hsame.mono (by decide) (by decide)⟩
      · show Steps p.tables e below (T2.setTop (mkF m 36 #[.val (.ref a1), .val (.ref a2), .val (.int (0 : Int32)), .val (.int (2 : Int32)), .val .null, .unset] [(.int (2 : Int32)), (.int (0 : Int32)), (.ref a2)])) _
        refine st36 _ ?_
        show Steps p.tables e below (T36.setTop (mkF m 39 #[.val (.ref a1), .val (.ref a2), .val (.int (0 : Int32)), .val (.int (2 : Int32)), .val .null, .unset] [(.ref bb_36)])) _
        refine XS.astore X36.here hx rfl (hb hby d3_39) rfl rfl (l' := #[.val (.ref a1), .val (.ref a2), .val (.int (0 : Int32)), .val (.int (2 : Int32)), .val .null, .val (.ref bb_36)]) rfl ?_
        show Steps p.tables e below (T36.setTop (mkF m 41 #[.val (.ref a1), .val (.ref a2), .val (.int (0 : Int32)), .val (.int (2 : Int32)), .val .null, .val (.ref bb_36)] [])) _
        refine XS.aloadN X36.here hx rfl (hb hby d3_41) rfl rfl ?_
        show Steps p.tables e below (T36.setTop (mkF m 42 #[.val (.ref a1), .val (.ref a2), .val (.int (0 : Int32)), .val (.int (2 : Int32)), .val .null, .val (.ref bb_36)] [(.ref a1)])) _
        refine XS.aload X36.here hx rfl (hb hby d3_42) rfl rfl ?_
        show Steps p.tables e below (T36.setTop (mkF m 44 #[.val (.ref a1), .val (.ref a2), .val (.int (0 : Int32)), .val (.int (2 : Int32)), .val .null, .val (.ref bb_36)] [(.ref bb_36), (.ref a1)])) _
        refine XS.iloadN X36.here hx rfl (hb hby d3_44) rfl ?_
        show Steps p.tables e below (T36.setTop (mkF m 45 #[.val (.ref a1), .val (.ref a2), .val (.int (0 : Int32)), .val (.int (2 : Int32)), .val .null, .val (.ref bb_36)] [(.int (2 : Int32)), (.ref bb_36), (.ref a1)])) _
        refine st38 _ ?_
        show Steps p.tables e below (T38.setTop (mkF m 48 #[.val (.ref a1), .val (.ref a2), .val (.int (0 : Int32)), .val (.int (2 : Int32)), .val .null, .val (.ref bb_36)] [(.int (0 : Int32)), (.ref a1)])) _
        refine st42 _ ?_
        show Steps p.tables e below (T42.setTop (mkF m 51 #[.val (.ref a1), .val (.ref a2), .val (.int (0 : Int32)), .val (.int (2 : Int32)), .val .null, .val (.ref bb_36)] [])) _
        refine XS.aloadN X42.here hx rfl (hb hby d3_51) rfl rfl ?_
        show Steps p.tables e below (T42.setTop (mkF m 52 #[.val (.ref a1), .val (.ref a2), .val (.int (0 : Int32)), .val (.int (2 : Int32)), .val .null, .val (.ref bb_36)] [(.ref a1)])) _
        refine XS.aload X42.here hx rfl (hb hby d3_52) rfl rfl ?_
        show Steps p.tables e below (T42.setTop (mkF m 54 #[.val (.ref a1), .val (.ref a2), .val (.int (0 : Int32)), .val (.int (2 : Int32)), .val .null, .val (.ref bb_36)] [(.ref bb_36), (.ref a1)])) _
        refine st46 _ ?_
        show Steps p.tables e below (T46.setTop (mkF m 57 #[.val (.ref a1), .val (.ref a2), .val (.int (0 : Int32)), .val (.int (2 : Int32)), .val .null, .val (.ref bb_36)] [])) _
        exact X46.returnOut hx Bd.returns (hb hby d3_57) hr
      · show Qf42 Z a1 a2 kc c0 c1 G1 h0 n0 _ T46.heap _
        rw [e46]
        exact ⟨bb_36, k0_36, (0 : Int32), (2 : Int32), [(.int ((c0.toInt8.toInt32).toInt8.toInt32)), (.int ((c1.toInt8.toInt32).toInt8.toInt32))], N46, K47, f48, f49, Fw46, f50, sz_bb_36, (Or.inr (Or.inr (Or.inr (Or.inl ⟨rfl, rfl, rfl, rfl, hg4, hg20⟩)))), rfl⟩
theorem ef_f12 (m : MethodId) (a1 : Addr) (a2 : Addr) : entryFrame m #[(.ref a1), (.ref a2)] 2 = mkF m 0 #[.val (.ref a1), .val (.ref a2)] [] := by first | (simp [entryFrame, mkF, argsToLocals, Value.category]; done) | rfl
def Qf12 (Z : State) (a1 : Addr) (a2 : Addr) (kc : ClassId) (c0 : Int32) (c1 : Int32) (G1 : Int32) (h0 : Heap) (n0 : Nat) (v : Option Value) (h : Heap) (L : List Loc) : Prop := ∃ (tt : Addr) (k0 : ClassId) (cc : Int32) (ll : Int32) (vv : List Value), Fr n0 L ∧ Keep h0 h [a1] ∧ Exa Z h a1 "java/lang/String" ∧ Fld Z h a1 "java/lang/String" "coder" "B" (.int cc) ∧ Fld Z h a1 "java/lang/String" "value" "[B" (.ref tt) ∧ Arv Z h tt k0 .byte ll vv (.int (0 : Int32)) ∧ h0.size ≤ tt ∧ own_Rep (2 : Int32) c0 c1 cc ll vv ∧ (v = none)
set_option maxRecDepth 65536 in
set_option maxHeartbeats 40000000 in
theorem rmF12 (l : Launch) (Z : State) (a0 : Array Value) (hw : ∀ d ∈ tables_1, d.before a0 Z = true) (ws : List Jvm.Cond) (a1 : Addr) (a2 : Addr) (kc : ClassId) (c0 : Int32) (c1 : Int32) (G1 : Int32) (h0 : Heap) (n0 : Nat) (Z0 : n0 ≤ h0.size) (hE : Exa Z h0 a1 "java/lang/String") (hF1 : Fld Z h0 a1 "java/lang/String" "value" "[B" .null) (hF2 : Fld Z h0 a1 "java/lang/String" "coder" "B" (.int (0 : Int32))) (hG1 : n0 ≤ a1) (hS : Sta Z Z.heap "java/lang/String" "COMPACT_STRINGS" "Z" (.int G1)) (hG : ¬ (G1 = (0 : Int32))) (hO : Old Z n0 h0) (hSa : Sta Z Z.heap "java/lang/StringUTF16" "$assertionsDisabled" "Z" (.int (1 : Int32))) (hSh : Sta Z Z.heap "java/lang/StringUTF16" "HI_BYTE_SHIFT" "I" (.int (0 : Int32))) (hSl : Sta Z Z.heap "java/lang/StringUTF16" "LO_BYTE_SHIFT" "I" (.int (8 : Int32))) (hVc : Arv Z h0 a2 kc .char (2 : Int32) [(.int c0), (.int c1)] (.int (0 : Int32))) (hH0 : own_H c0) (hH1 : own_H c1) :
    MetFree l (⟨"java/lang/String", "<init>", "([C)V"⟩ : MethodName) (head1 (Jvm.Cond.code (⟨"java/lang/String", "<init>", "([C)V"⟩ : MethodName) jdk_42_method_3_code 2 none :: ws) ({ frames := 5, cells := 2, slots := 6, locals := 74 } : Room)) (fun a U => a = #[(.ref a1), (.ref a2)] ∧ Z.Warmed39 U.vm ∧ U.heap = h0) (fun _ _ _ _ _ => True) (fun _ U o U' => ∃ v L, o = .returned v ∧ Qf12 Z a1 a2 kc c0 c1 G1 h0 n0 v U'.heap L ∧ FrameEnd U o U' L ({ frames := 5, cells := 2, slots := 6, locals := 74 } : Room).cells ({ frames := 5, cells := 2, slots := 6, locals := 74 } : Room).slots) := by
  refine MetFree.of_bodySF (plainFor_of_name own_pn_5) hisR ?_
  intro p e s m args below meth c s₁ Bd hml0 hP hK
  obtain ⟨rfl, hZ, hh⟩ := hP
  have hx := Bd.exec
  have hby := Bd.bytes
  have hml : c.maxLocals = 2 := hml0
  have hown : s.vm.findClass "java/lang/String" = some m.cls := findClass_of_methodNamed Bd.named
  have hnm := (name_of_methodNamed Bd.named Bd.method).1
  have X0 : Stand p l e ({ frames := 5, cells := 2, slots := 6, locals := 74 } : Room) s m #[(.ref a1), (.ref a2)] below meth c s₁ [] 0 0 := Stand.of_body Bd
  have e0 : s₁.heap = h0 := by rw [← hh, Bd.state]; rfl
  have N0 := Fr.nil n0
  have pre0 : ∀ t, Steps p.tables e below (s₁.setTop (mkF m 0 #[.val (.ref a1), .val (.ref a2)] [])) t → Steps p.tables e below (s₁.setTop (entryFrame m #[(.ref a1), (.ref a2)] 2)) t := fun t k => castTop (ef_f12 m a1 a2) k
  obtain ⟨cl1, Ar1, -, S1, M1, -, -⟩ := id hVc
  obtain ⟨_, _, ⟨T2, L2, k2, n2⟩, -, X2, ⟨Lc2, hQ2, l2, y2, z2⟩, st2⟩ := X0.specialBack hx (y := (⟨"java/lang/String", "<init>", "([CIILjava/lang/Void;)V"⟩ : MethodName)) rfl hown (mvT hZ (own_k hw 12 rfl)) (mvT hZ (own_k hw 13 rfl)) (mvT hZ (own_k hw 15 rfl)) (by decide) (backOf (W := 0) (rmF42 l Z a0 hw [] a1 a2 kc c0 c1 G1 h0 n0 Z0 hE hF1 hF2 hG1 hS (hG) hO hSa hSh hSl hVc (hH0) (hH1)) hZ (own_k hw 15 rfl) (own_k hw 7 rfl) (by decide) (by decide)) (g := (mkF m 6 #[.val (.ref a1), .val (.ref a2)] [.null, (.int (2 : Int32)), (.int (0 : Int32)), (.ref a2), (.ref a1)])) rfl (by rw [hml]; rfl) (Steps.refl _) (a := a1) (argsL := [(.ref a2), (.int (0 : Int32)), (.int (2 : Int32)), .null]) (rest := []) (lenOf own_pd_12 rfl) rfl (by show 2 * 0 + _ ≤ _; exact Nat.le_of_eq rfl) (hb hby d2_6) (fun _ _ => ⟨rfl, e0, (by decide : 0 + 2 ≤ _), (by decide : 0 + 6 ≤ _)⟩)
  dsimp only [Pt.U, Pt.locs, Pt.cells, Pt.slots] at X2 l2 y2 z2 st2 hQ2
  subst l2
  subst y2 z2
  obtain ⟨tt_2, k0_2, cc_2, ll_2, vv_2, Nq2, Kq2, p2_0, p2_1, p2_2, p2_3, p2_4, p2_5, hv2⟩ := hQ2
  have N2 := Fr.app N0 Nq2
  have g_tt_2 : n0 ≤ tt_2 := Nat.le_trans Z0 p2_4
  have sz_tt_2 : h0.size ≤ tt_2 := Nat.le_trans (Keep.refl h0 [a1]).1 p2_4
  have K3 : Keep h0 T2.heap [a1] := (Keep.refl h0 [a1]).trans Kq2 (allS (Or.inl (List.mem_of_getElem? (i := 0) rfl)) all0)
  subst hv2
  obtain ⟨fs, hr, hrun, hended, hW, hsame⟩ := X2.leave (v := none) (fun _ => rfl)
  refine ⟨_, _, pre0 _ ?_, hrun, hended, _, _, rfl, ?_, ⟨_, rfl⟩, hW, hsame.mono (by decide) (by decide)⟩
  · show Steps p.tables e below (s₁.setTop (mkF m 0 #[.val (.ref a1), .val (.ref a2)] [])) _
    refine XS.aloadN X0.here hx rfl (hb hby d2_0) rfl rfl ?_
    show Steps p.tables e below (s₁.setTop (mkF m 1 #[.val (.ref a1), .val (.ref a2)] [(.ref a1)])) _
    refine XS.aloadN X0.here hx rfl (hb hby d2_1) rfl rfl ?_
    show Steps p.tables e below (s₁.setTop (mkF m 2 #[.val (.ref a1), .val (.ref a2)] [(.ref a2), (.ref a1)])) _
    refine XS.iconst X0.here hx rfl (hb hby d2_2) ?_
    show Steps p.tables e below (s₁.setTop (mkF m 3 #[.val (.ref a1), .val (.ref a2)] [(.int (0 : Int32)), (.ref a2), (.ref a1)])) _
    refine XS.aloadN X0.here hx rfl (hb hby d2_3) rfl rfl ?_
    show Steps p.tables e below (s₁.setTop (mkF m 4 #[.val (.ref a1), .val (.ref a2)] [(.ref a2), (.int (0 : Int32)), (.ref a2), (.ref a1)])) _
    refine X0.arraylength hx (by rw [e0]; exact Ar1.1) (State.isArrayOf_alike hZ.alike Ar1.2.1) (g := (mkF m 4 #[.val (.ref a1), .val (.ref a2)] [(.ref a2), (.int (0 : Int32)), (.ref a2), (.ref a1)])) rfl rfl (hb hby d2_4) _ ?_
    rw [len_of S1 M1]
    show Steps p.tables e below (s₁.setTop (mkF m 5 #[.val (.ref a1), .val (.ref a2)] [(.int (2 : Int32)), (.int (0 : Int32)), (.ref a2), (.ref a1)])) _
    refine XS.aconstNull X0.here hx rfl (hb hby d2_5) ?_
    show Steps p.tables e below (s₁.setTop (mkF m 6 #[.val (.ref a1), .val (.ref a2)] [.null, (.int (2 : Int32)), (.int (0 : Int32)), (.ref a2), (.ref a1)])) _
    refine st2.trans ?_
    show Steps p.tables e below (T2.setTop (mkF m 9 #[.val (.ref a1), .val (.ref a2)] [])) _
    exact X2.returnOut hx Bd.returns (hb hby d2_9) hr
  · show Qf12 Z a1 a2 kc c0 c1 G1 h0 n0 _ T2.heap _
    exact ⟨tt_2, k0_2, cc_2, ll_2, vv_2, N2, K3, p2_0, p2_1, p2_2, p2_3, sz_tt_2, p2_5, rfl⟩
theorem d3_8 : decode jdk_42_method_149_code 8 = .ok (.aload_n 0, 1) := by decide +kernel
theorem d3_9 : decode jdk_42_method_149_code 9 = .ok (.ldc 7, 2) := by decide +kernel
theorem d3_11 : decode jdk_42_method_149_code 11 = .ok (.getfield 9, 3) := by decide +kernel
theorem d3_14 : decode jdk_42_method_149_code 14 = .ok (.putfield 9, 3) := by decide +kernel
theorem d3_17 : decode jdk_42_method_149_code 17 = .ok (.aload_n 0, 1) := by decide +kernel
theorem d3_18 : decode jdk_42_method_149_code 18 = .ok (.ldc 7, 2) := by decide +kernel
theorem d3_20 : decode jdk_42_method_149_code 20 = .ok (.getfield 15, 3) := by decide +kernel
theorem d3_23 : decode jdk_42_method_149_code 23 = .ok (.putfield 15, 3) := by decide +kernel
theorem d3_26 : decode jdk_42_method_149_code 26 = .ok (.return_, 1) := by decide +kernel
theorem ef_s4 (m : MethodId) (a1 : Addr) (a2 : Addr) : entryFrame m #[(.ref a1), (.ref a2), (.int (0 : Int32)), (.int (0 : Int32)), .null] 6 = mkF m 0 #[.val (.ref a1), .val (.ref a2), .val (.int (0 : Int32)), .val (.int (0 : Int32)), .val .null, .unset] [] := by first | (simp [entryFrame, mkF, argsToLocals, Value.category]; done) | rfl
def Qs4 (Z : State) (a1 : Addr) (a2 : Addr) (h0 : Heap) (n0 : Nat) (v : Option Value) (h : Heap) (L : List Loc) : Prop := ∃ (tt : Addr) (k0 : ClassId), Fr n0 L ∧ Keep h0 h [a1] ∧ Exa Z h a1 "java/lang/String" ∧ Fld Z h a1 "java/lang/String" "coder" "B" (.int (0 : Int32)) ∧ Fld Z h a1 "java/lang/String" "value" "[B" (.ref tt) ∧ Arv Z h tt k0 .byte (0 : Int32) [] (.int (0 : Int32)) ∧ (v = none)
set_option maxRecDepth 65536 in
set_option maxHeartbeats 40000000 in
theorem rmS4 (l : Launch) (Z : State) (a0 : Array Value) (hw : ∀ d ∈ tables_1, d.before a0 Z = true) (ws : List Jvm.Cond) (a1 : Addr) (a2 : Addr) (h0 : Heap) (n0 : Nat) (Z0 : n0 ≤ h0.size) (hE : Exa Z h0 a1 "java/lang/String") (hF1 : Fld Z h0 a1 "java/lang/String" "value" "[B" .null) (hF2 : Fld Z h0 a1 "java/lang/String" "coder" "B" (.int (0 : Int32))) (hG1 : n0 ≤ a1) :
    MetFree l (⟨"java/lang/String", "<init>", "([CIILjava/lang/Void;)V"⟩ : MethodName) (head1 (Jvm.Cond.code (⟨"java/lang/String", "<init>", "([CIILjava/lang/Void;)V"⟩ : MethodName) jdk_42_method_149_code 6 none :: ws) ({ frames := 1, cells := 2, slots := 4, locals := 12 } : Room)) (fun a U => a = #[(.ref a1), (.ref a2), (.int (0 : Int32)), (.int (0 : Int32)), .null] ∧ Z.Warmed39 U.vm ∧ U.heap = h0 ∧ CHv Z own_EL U.vm h0 ∧ ∀ x ∈ ([a1] : List Addr), Safe Z own_EL U.vm h0 x) (fun _ _ _ _ _ => True) (fun _ U o U' => ∃ v L, o = .returned v ∧ Qs4 Z a1 a2 h0 n0 v U'.heap L ∧ CHr Z own_EL U.vm U.heap U'.vm U'.heap ∧ ReturnedEndW U o U' L ({ frames := 1, cells := 2, slots := 4, locals := 12 } : Room).cells ({ frames := 1, cells := 2, slots := 4, locals := 12 } : Room).slots) := by
  refine MetFree.of_bodySF (plainFor_of_name own_pn_5) hisR ?_
  intro p e s m args below meth c s₁ Bd hml0 hP hK
  obtain ⟨rfl, hZ, hh, hCH, hQs⟩ := hP
  have hx := Bd.exec
  have hby := Bd.bytes
  have hml : c.maxLocals = 6 := hml0
  have hown : s.vm.findClass "java/lang/String" = some m.cls := findClass_of_methodNamed Bd.named
  have hnm := (name_of_methodNamed Bd.named Bd.method).1
  have X0 : Stand p l e ({ frames := 1, cells := 2, slots := 4, locals := 12 } : Room) (s.setVm s.vm) m #[(.ref a1), (.ref a2), (.int (0 : Int32)), (.int (0 : Int32)), .null] below meth c s₁ [] 0 0 := Stand.of_body Bd
  have e0 : s₁.heap = h0 := by rw [← hh, Bd.state]; rfl
  have N0 := Fr.nil n0
  have pre0 : ∀ t, Steps p.tables e below (s₁.setTop (mkF m 0 #[.val (.ref a1), .val (.ref a2), .val (.int (0 : Int32)), .val (.int (0 : Int32)), .val .null, .unset] [])) t → Steps p.tables e below (s₁.setTop (entryFrame m #[(.ref a1), (.ref a2), (.int (0 : Int32)), (.int (0 : Int32)), .null] 6)) t := fun t k => castTop (ef_s4 m a1 a2) k
  have hZ0 := hZ
  have hown0 := hown
  have hEL : EW Z a0 own_EL := (EW.cons (own_k hw 35 rfl) (by decide) EW.nil)
  have hwS : ∀ a ∈ Bundle.stringAtoms, a.before a0 Z = true := fun d hd => hw d ((by decide +kernel : ∀ d ∈ Bundle.stringAtoms, d ∈ tables_1) d hd)
  have hS0 : s.Since s.vm h0.size := (State.WarmedH.refl s).since _
  have Y0 : h0.size ≤ h0.size := Nat.le_refl _
  have R0 : CHr Z own_EL s.vm h0 s.vm h0 := CHr.refl hCH
  have q_a1 := hQs a1 (List.mem_of_getElem? (i := 0) rfl)
  obtain ⟨T1, X1, e1, st1⟩ := initO X0 hx hZ0 hown0 (own_k hw 16 rfl) (own_k hw 17 rfl) (own_k hw 18 rfl) e0 (g := (mkF m 1 #[.val (.ref a1), .val (.ref a2), .val (.int (0 : Int32)), .val (.int (0 : Int32)), .val .null, .unset] [(.ref a1)])) rfl (by rw [hml]; rfl) rfl (hb hby d3_1) (by decide) (W := 0) (by show 2 * 0 + _ ≤ _; exact Nat.le_of_eq rfl) (by decide)
  obtain ⟨aa2, T2, h2, k2, b2, c2, X2, e2, E2, hS2, hk2, hZ2, hown2, pE2, pC2, pV2, pA2, la2, lb2, hR2, hL2, hne2, st2⟩ := ldcCH X1 hx hZ0 hown0 (own_k hw 35 rfl) hwS e1 hS0 Y0 hEL (List.mem_of_getElem? (i := 0) rfl) R0.1 (vs := []) (z := (0 : Int32)) ⟨by decide, by decide⟩ (by decide) rfl (g := (mkF m 9 #[.val (.ref a1), .val (.ref a2), .val (.int (0 : Int32)), .val (.int (0 : Int32)), .val .null, .unset] [(.ref a1)])) rfl (hb hby d3_9) (n := 0) (by decide) (by decide) (by decide) (by decide)
  have K3 : Keep h0 h2 [a1] := (Keep.refl h0 [a1]).ext E2
  have R4 : CHr Z own_EL s.vm h0 T2.vm h2 := R0.trans (hR2)
  have f5 : Safe Z own_EL T2.vm h2 a1 := (hR2.safe hE.lt q_a1)
  obtain ⟨T6, X6, e6, st6⟩ := getF X2 hx hZ2 hown2 (host := "") (Or.inl (own_k hw 33 rfl)) Via.refl e2 pV2 (g := (mkF m 11 #[.val (.ref a1), .val (.ref a2), .val (.int (0 : Int32)), .val (.int (0 : Int32)), .val .null, .unset] [(.ref aa2), (.ref a1)])) rfl rfl (hb hby d3_11)
  have f7 : Fld Z h2 a1 "java/lang/String" "value" "[B" .null := (hF1.ext E2)
  have f8 : Exa Z h2 a1 "java/lang/String" := (hE.ext E2)
  obtain ⟨T9, h9, X9, e9, W9, st9⟩ := putF X6 hx hZ2 hown2 (host := "") (Or.inl (own_k hw 33 rfl)) Via.refl e6 f7 f8 (Or.inr ⟨(own_k hw 34 rfl), rfl, hnm⟩) (own_k hw 6 rfl) (ty := (.array .byte)) (by decide) rfl rfl (g := (mkF m 14 #[.val (.ref a1), .val (.ref a2), .val (.int (0 : Int32)), .val (.int (0 : Int32)), .val .null, .unset] [(.ref b2), (.ref a1)])) rfl rfl (hb hby d3_14)
  have R10 : CHr Z own_EL s.vm h0 T2.vm h9 := R4.trans (CHr.wr W9 f5 R4.1)
  have N9 := Fr.snoc X9 N0 hG1
  have K11 : Keep h0 h9 [a1] := K3.wr W9 (Or.inl (List.mem_of_getElem? (i := 0) rfl))
  have Fw9 : Fld Z h9 a1 "java/lang/String" "value" "[B" (.ref b2) := f7.same W9
  have st12 := ldcAgain X9 hx hZ2 hown2 (own_k hw 35 rfl) hL2 (g := (mkF m 18 #[.val (.ref a1), .val (.ref a2), .val (.int (0 : Int32)), .val (.int (0 : Int32)), .val .null, .unset] [(.ref a1)])) rfl (hb hby d3_18)
  have f13 : Fld Z h9 aa2 "java/lang/String" "coder" "B" (.int (0 : Int32)) := (pC2.other W9 (Or.inl (Ne.symm (hne2 _ f5).1)))
  obtain ⟨T14, X14, e14, st14⟩ := getF X9 hx hZ2 hown2 (host := "") (Or.inl (own_k hw 31 rfl)) Via.refl e9 f13 (g := (mkF m 20 #[.val (.ref a1), .val (.ref a2), .val (.int (0 : Int32)), .val (.int (0 : Int32)), .val .null, .unset] [(.ref aa2), (.ref a1)])) rfl rfl (hb hby d3_20)
  have f15 : Fld Z h9 a1 "java/lang/String" "coder" "B" (.int (0 : Int32)) := ((hF2.ext E2).other W9 (Or.inr (slot_ne (Or.inr (own_k hw 32 rfl)) (Or.inr (own_k hw 34 rfl)) (by decide) (t := .byte) (t' := (.array .byte)) (by decide) (by decide))))
  have f16 : Exa Z h9 a1 "java/lang/String" := (f8.wr W9)
  have f17 : Safe Z own_EL T2.vm h9 a1 := (Safe.wr W9 f5 R4.1 f5)
  obtain ⟨T18, h18, X18, e18, W18, st18⟩ := putFN X14 hx hZ2 hown2 (own_k hw 31 rfl) Via.refl e14 f15 f16 (Or.inr ⟨(own_k hw 32 rfl), rfl, hnm⟩) (own_k hw 6 rfl) (ty := .byte) (v' := (.int (0 : Int32))) (by decide) rfl rfl (g := (mkF m 23 #[.val (.ref a1), .val (.ref a2), .val (.int (0 : Int32)), .val (.int (0 : Int32)), .val .null, .unset] [(.int (0 : Int32)), (.ref a1)])) rfl rfl (hb hby d3_23)
  have R19 : CHr Z own_EL s.vm h0 T2.vm h18 := R10.trans (CHr.wr W18 f17 R10.1)
  have N18 := Fr.snoc X18 N9 hG1
  have K20 : Keep h0 h18 [a1] := K11.wr W18 (Or.inl (List.mem_of_getElem? (i := 0) rfl))
  have Fw18 : Fld Z h18 a1 "java/lang/String" "coder" "B" (.int (0 : Int32)) := f15.same W18
  have f21 : Exa Z h18 a1 "java/lang/String" := (f16.wr W18)
  have f22 : Fld Z h18 a1 "java/lang/String" "value" "[B" (.ref b2) := (Fw9.other W18 (Or.inr (slot_ne (Or.inr (own_k hw 34 rfl)) (Or.inr (own_k hw 32 rfl)) (by decide) (t := (.array .byte)) (t' := .byte) (by decide) (by decide))))
  have f23 : Arv Z h18 b2 c2 .byte (0 : Int32) [] (.int (0 : Int32)) := ((pA2.other W9 (Ne.symm (hne2 _ f5).2)).other W18 (Ne.symm (hne2 _ f5).2))
  have hRe := R19.trans (CHv.at X18 hZ2 hEL R19.1)
  rw [← e18] at hRe
  rw [← hh] at hRe
  have f24 : k2 ≤ h18.size := (Nat.le_trans (Nat.le_trans hk2 (Keep.of_wr W9).1) (Keep.of_wr W18).1)
  obtain ⟨fs, hr, hrun, hended, hend⟩ := X18.leaveW hS2 (by rw [e18]; exact f24) (v := none) (fun _ => rfl)
  refine ⟨_, _, pre0 _ ?_, hrun, hended, _, _, rfl, ?_, hRe, hend.1, hend.2.1, hend.2.2.1, hend.2.2.2.mono (by decide) (by decide)⟩
  · show Steps p.tables e below (s₁.setTop (mkF m 0 #[.val (.ref a1), .val (.ref a2), .val (.int (0 : Int32)), .val (.int (0 : Int32)), .val .null, .unset] [])) _
    refine XS.aloadN X0.here hx rfl (hb hby d3_0) rfl rfl ?_
    show Steps p.tables e below (s₁.setTop (mkF m 1 #[.val (.ref a1), .val (.ref a2), .val (.int (0 : Int32)), .val (.int (0 : Int32)), .val .null, .unset] [(.ref a1)])) _
    refine st1 _ ?_
    show Steps p.tables e below (T1.setTop (mkF m 4 #[.val (.ref a1), .val (.ref a2), .val (.int (0 : Int32)), .val (.int (0 : Int32)), .val .null, .unset] [])) _
    refine XS.iloadN X1.here hx rfl (hb hby d3_4) rfl ?_
    show Steps p.tables e below (T1.setTop (mkF m 5 #[.val (.ref a1), .val (.ref a2), .val (.int (0 : Int32)), .val (.int (0 : Int32)), .val .null, .unset] [(.int (0 : Int32))])) _
    refine XS.ifNo X1.here hx rfl (hb hby d3_5) rfl (by decide) ?_
    show Steps p.tables e below (T1.setTop (mkF m 8 #[.val (.ref a1), .val (.ref a2), .val (.int (0 : Int32)), .val (.int (0 : Int32)), .val .null, .unset] [])) _
    refine XS.aloadN X1.here hx rfl (hb hby d3_8) rfl rfl ?_
    show Steps p.tables e below (T1.setTop (mkF m 9 #[.val (.ref a1), .val (.ref a2), .val (.int (0 : Int32)), .val (.int (0 : Int32)), .val .null, .unset] [(.ref a1)])) _
    refine st2 _ ?_
    show Steps p.tables e below (T2.setTop (mkF m 11 #[.val (.ref a1), .val (.ref a2), .val (.int (0 : Int32)), .val (.int (0 : Int32)), .val .null, .unset] [(.ref aa2), (.ref a1)])) _
    refine st6 _ ?_
    show Steps p.tables e below (T6.setTop (mkF m 14 #[.val (.ref a1), .val (.ref a2), .val (.int (0 : Int32)), .val (.int (0 : Int32)), .val .null, .unset] [(.ref b2), (.ref a1)])) _
    refine st9 _ ?_
    show Steps p.tables e below (T9.setTop (mkF m 17 #[.val (.ref a1), .val (.ref a2), .val (.int (0 : Int32)), .val (.int (0 : Int32)), .val .null, .unset] [])) _
    refine XS.aloadN X9.here hx rfl (hb hby d3_17) rfl rfl ?_
    show Steps p.tables e below (T9.setTop (mkF m 18 #[.val (.ref a1), .val (.ref a2), .val (.int (0 : Int32)), .val (.int (0 : Int32)), .val .null, .unset] [(.ref a1)])) _
    refine st12 _ ?_
    show Steps p.tables e below (T9.setTop (mkF m 20 #[.val (.ref a1), .val (.ref a2), .val (.int (0 : Int32)), .val (.int (0 : Int32)), .val .null, .unset] [(.ref aa2), (.ref a1)])) _
    refine st14 _ ?_
    show Steps p.tables e below (T14.setTop (mkF m 23 #[.val (.ref a1), .val (.ref a2), .val (.int (0 : Int32)), .val (.int (0 : Int32)), .val .null, .unset] [(.int (0 : Int32)), (.ref a1)])) _
    refine st18 _ ?_
    show Steps p.tables e below (T18.setTop (mkF m 26 #[.val (.ref a1), .val (.ref a2), .val (.int (0 : Int32)), .val (.int (0 : Int32)), .val .null, .unset] [])) _
    exact X18.returnOut hx Bd.returns (hb hby d3_26) hr
  · show Qs4 Z a1 a2 h0 n0 _ T18.heap _
    rw [e18]
    exact ⟨b2, c2, N18, K20, f21, Fw18, f22, f23, rfl⟩
theorem ef_s1 (m : MethodId) (a1 : Addr) (a2 : Addr) : entryFrame m #[(.ref a1), (.ref a2)] 2 = mkF m 0 #[.val (.ref a1), .val (.ref a2)] [] := by first | (simp [entryFrame, mkF, argsToLocals, Value.category]; done) | rfl
def Qs1 (Z : State) (a1 : Addr) (a2 : Addr) (k2 : ClassId) (dv : Value) (h0 : Heap) (n0 : Nat) (v : Option Value) (h : Heap) (L : List Loc) : Prop := ∃ (tt : Addr) (k0 : ClassId), Fr n0 L ∧ Keep h0 h [a1] ∧ Exa Z h a1 "java/lang/String" ∧ Fld Z h a1 "java/lang/String" "coder" "B" (.int (0 : Int32)) ∧ Fld Z h a1 "java/lang/String" "value" "[B" (.ref tt) ∧ Arv Z h tt k0 .byte (0 : Int32) [] (.int (0 : Int32)) ∧ (v = none)
set_option maxRecDepth 65536 in
set_option maxHeartbeats 40000000 in
theorem rmS1 (l : Launch) (Z : State) (a0 : Array Value) (hw : ∀ d ∈ tables_1, d.before a0 Z = true) (ws : List Jvm.Cond) (a1 : Addr) (a2 : Addr) (k2 : ClassId) (dv : Value) (h0 : Heap) (n0 : Nat) (Z0 : n0 ≤ h0.size) (hE : Exa Z h0 a1 "java/lang/String") (hF1 : Fld Z h0 a1 "java/lang/String" "value" "[B" .null) (hF2 : Fld Z h0 a1 "java/lang/String" "coder" "B" (.int (0 : Int32))) (hG1 : n0 ≤ a1) (hV : Arv Z h0 a2 k2 .char (0 : Int32) [] dv) :
    MetFree l (⟨"java/lang/String", "<init>", "([C)V"⟩ : MethodName) (head1 (Jvm.Cond.code (⟨"java/lang/String", "<init>", "([C)V"⟩ : MethodName) jdk_42_method_3_code 2 none :: ws) ({ frames := 2, cells := 2, slots := 4, locals := 29 } : Room)) (fun a U => a = #[(.ref a1), (.ref a2)] ∧ Z.Warmed39 U.vm ∧ U.heap = h0 ∧ CHv Z own_EL U.vm h0 ∧ ∀ x ∈ ([a1] : List Addr), Safe Z own_EL U.vm h0 x) (fun _ _ _ _ _ => True) (fun _ U o U' => ∃ v L, o = .returned v ∧ Qs1 Z a1 a2 k2 dv h0 n0 v U'.heap L ∧ CHr Z own_EL U.vm U.heap U'.vm U'.heap ∧ ReturnedEndW U o U' L ({ frames := 2, cells := 2, slots := 4, locals := 29 } : Room).cells ({ frames := 2, cells := 2, slots := 4, locals := 29 } : Room).slots) := by
  refine MetFree.of_bodySF (plainFor_of_name own_pn_5) hisR ?_
  intro p e s m args below meth c s₁ Bd hml0 hP hK
  obtain ⟨rfl, hZ, hh, hCH, hQs⟩ := hP
  have hx := Bd.exec
  have hby := Bd.bytes
  have hml : c.maxLocals = 2 := hml0
  have hown : s.vm.findClass "java/lang/String" = some m.cls := findClass_of_methodNamed Bd.named
  have hnm := (name_of_methodNamed Bd.named Bd.method).1
  have X0 : Stand p l e ({ frames := 2, cells := 2, slots := 4, locals := 29 } : Room) (s.setVm s.vm) m #[(.ref a1), (.ref a2)] below meth c s₁ [] 0 0 := Stand.of_body Bd
  have e0 : s₁.heap = h0 := by rw [← hh, Bd.state]; rfl
  have N0 := Fr.nil n0
  have pre0 : ∀ t, Steps p.tables e below (s₁.setTop (mkF m 0 #[.val (.ref a1), .val (.ref a2)] [])) t → Steps p.tables e below (s₁.setTop (entryFrame m #[(.ref a1), (.ref a2)] 2)) t := fun t k => castTop (ef_s1 m a1 a2) k
  have hZ0 := hZ
  have hown0 := hown
  have hEL : EW Z a0 own_EL := (EW.cons (own_k hw 35 rfl) (by decide) EW.nil)
  have hwS : ∀ a ∈ Bundle.stringAtoms, a.before a0 Z = true := fun d hd => hw d ((by decide +kernel : ∀ d ∈ Bundle.stringAtoms, d ∈ tables_1) d hd)
  have hS0 : s.Since s.vm h0.size := (State.WarmedH.refl s).since _
  have Y0 : h0.size ≤ h0.size := Nat.le_refl _
  have R0 : CHr Z own_EL s.vm h0 s.vm h0 := CHr.refl hCH
  have q_a1 := hQs a1 (List.mem_of_getElem? (i := 0) rfl)
  obtain ⟨cl1, Ar1, -, S1, M1, -, -⟩ := id hV
  obtain ⟨_, _, ⟨T2, L2, k2, n2⟩, -, X2, hSq2, hgq2, ⟨Lc2, hQ2, l2, y2, z2, hR2⟩, st2⟩ := X0.specialBackS hx (y := (⟨"java/lang/String", "<init>", "([CIILjava/lang/Void;)V"⟩ : MethodName)) rfl hown0 (mvT hZ0 (own_k hw 12 rfl)) (mvT hZ0 (own_k hw 13 rfl)) (mvT hZ0 (own_k hw 15 rfl)) (by decide) (own_backSQ (W := 0) (rmS4 l Z a0 hw [] a1 a2 h0 n0 Z0 hE hF1 hF2 hG1) hZ0 (own_k hw 15 rfl) (own_k hw 7 rfl) (by decide) (by decide) hEL R0.1 (sfS q_a1 sf0) (allS hE.lt all0)) (g := (mkF m 6 #[.val (.ref a1), .val (.ref a2)] [.null, (.int (0 : Int32)), (.int (0 : Int32)), (.ref a2), (.ref a1)])) rfl (by rw [hml]; rfl) (Steps.refl _) (a := a1) (argsL := [(.ref a2), (.int (0 : Int32)), (.int (0 : Int32)), .null]) (rest := []) (lenOf own_pd_12 rfl) rfl (by show 2 * 0 + _ ≤ _; exact Nat.le_of_eq rfl) (hb hby d2_6) (fun _ _ => ⟨rfl, e0, (by decide : 0 + 2 ≤ _), (by decide : 0 + 4 ≤ _)⟩)
  dsimp only [Pt.U, Pt.locs, Pt.cells, Pt.slots] at X2 l2 y2 z2 st2 hQ2 hSq2 hgq2 hR2
  subst l2
  subst y2 z2
  obtain ⟨Xr2, hS2, hZ2, hown2⟩ := rebS hS0 (k0 := h0.size) (by rw [e0]; exact Y0) X2 hSq2 hgq2 hZ0 hown0
  obtain ⟨tt_2, k0_2, Nq2, Kq2, p2_0, p2_1, p2_2, p2_3, hv2⟩ := hQ2
  have N2 := Fr.app N0 Nq2
  have R3 : CHr Z own_EL s.vm h0 T2.vm T2.heap := R0.trans (hR2)
  have Y2 : T2.heap.size ≤ T2.heap.size := Nat.le_refl _
  have K4 : Keep h0 T2.heap [a1] := (Keep.refl h0 [a1]).trans Kq2 (allS (Or.inl (List.mem_of_getElem? (i := 0) rfl)) all0)
  subst hv2
  have hRe := R3.trans (CHv.at Xr2 hZ2 hEL R3.1)
  rw [← hh] at hRe
  obtain ⟨fs, hr, hrun, hended, hend⟩ := Xr2.leaveW hS2 Y2 (v := none) (fun _ => rfl)
  refine ⟨_, _, pre0 _ ?_, hrun, hended, _, _, rfl, ?_, hRe, hend.1, hend.2.1, hend.2.2.1, hend.2.2.2.mono (by decide) (by decide)⟩
  · show Steps p.tables e below (s₁.setTop (mkF m 0 #[.val (.ref a1), .val (.ref a2)] [])) _
    refine XS.aloadN X0.here hx rfl (hb hby d2_0) rfl rfl ?_
    show Steps p.tables e below (s₁.setTop (mkF m 1 #[.val (.ref a1), .val (.ref a2)] [(.ref a1)])) _
    refine XS.aloadN X0.here hx rfl (hb hby d2_1) rfl rfl ?_
    show Steps p.tables e below (s₁.setTop (mkF m 2 #[.val (.ref a1), .val (.ref a2)] [(.ref a2), (.ref a1)])) _
    refine XS.iconst X0.here hx rfl (hb hby d2_2) ?_
    show Steps p.tables e below (s₁.setTop (mkF m 3 #[.val (.ref a1), .val (.ref a2)] [(.int (0 : Int32)), (.ref a2), (.ref a1)])) _
    refine XS.aloadN X0.here hx rfl (hb hby d2_3) rfl rfl ?_
    show Steps p.tables e below (s₁.setTop (mkF m 4 #[.val (.ref a1), .val (.ref a2)] [(.ref a2), (.int (0 : Int32)), (.ref a2), (.ref a1)])) _
    refine X0.arraylength hx (by rw [e0]; exact Ar1.1) (State.isArrayOf_alike hZ0.alike Ar1.2.1) (g := (mkF m 4 #[.val (.ref a1), .val (.ref a2)] [(.ref a2), (.int (0 : Int32)), (.ref a2), (.ref a1)])) rfl rfl (hb hby d2_4) _ ?_
    rw [len_of S1 M1]
    show Steps p.tables e below (s₁.setTop (mkF m 5 #[.val (.ref a1), .val (.ref a2)] [(.int (0 : Int32)), (.int (0 : Int32)), (.ref a2), (.ref a1)])) _
    refine XS.aconstNull X0.here hx rfl (hb hby d2_5) ?_
    show Steps p.tables e below (s₁.setTop (mkF m 6 #[.val (.ref a1), .val (.ref a2)] [.null, (.int (0 : Int32)), (.int (0 : Int32)), (.ref a2), (.ref a1)])) _
    refine st2.trans ?_
    show Steps p.tables e below (T2.setTop (mkF m 9 #[.val (.ref a1), .val (.ref a2)] [])) _
    exact Xr2.returnOut hx Bd.returns (hb hby d2_9) hr
  · show Qs1 Z a1 a2 k2 dv h0 n0 _ T2.heap _
    exact ⟨tt_2, k0_2, N2, K4, p2_0, p2_1, p2_2, p2_3, rfl⟩
theorem own_Rep1 {c0 c1 d cc ll : Int32} {vv : List Value} (h : own_Rep 1 c0 c1 cc ll vv) : own_Rep 1 c0 d cc ll vv := by
  rcases h with h | h | h | h | h
  · exact absurd h.1 (by decide)
  · exact Or.inr (Or.inl h)
  · exact Or.inr (Or.inr (Or.inl h))
  · exact absurd h.1 (by decide)
  · exact absurd h.1 (by decide)
theorem d1_0 : decode method_4_code 0 = .ok (.iload_n 0, 1) := by decide +kernel
theorem d1_1 : decode method_4_code 1 = .ok (.ifCond .ne 14, 3) := by decide +kernel
theorem d1_4 : decode method_4_code 4 = .ok (.new 9, 3) := by decide +kernel
theorem d1_7 : decode method_4_code 7 = .ok (.dup, 1) := by decide +kernel
theorem d1_8 : decode method_4_code 8 = .ok (.iconst 0, 1) := by decide +kernel
theorem d1_9 : decode method_4_code 9 = .ok (.newarray .char, 2) := by decide +kernel
theorem d1_11 : decode method_4_code 11 = .ok (.invokespecial 11, 3) := by decide +kernel
theorem own_pd_13 : parseMethodDescriptor "([C)V" = some ⟨[(.array .char)], none⟩ := by decide +kernel
theorem d1_14 : decode method_4_code 14 = .ok (.areturn, 1) := by decide +kernel
theorem d1_15 : decode method_4_code 15 = .ok (.iload_n 0, 1) := by decide +kernel
theorem d1_16 : decode method_4_code 16 = .ok (.iconst 1, 1) := by decide +kernel
theorem d1_17 : decode method_4_code 17 = .ok (.if_icmp .ne 18, 3) := by decide +kernel
theorem d1_20 : decode method_4_code 20 = .ok (.new 9, 3) := by decide +kernel
theorem d1_23 : decode method_4_code 23 = .ok (.dup, 1) := by decide +kernel
theorem d1_24 : decode method_4_code 24 = .ok (.iconst 1, 1) := by decide +kernel
theorem d1_25 : decode method_4_code 25 = .ok (.newarray .char, 2) := by decide +kernel
theorem d1_27 : decode method_4_code 27 = .ok (.dup, 1) := by decide +kernel
theorem d1_28 : decode method_4_code 28 = .ok (.iconst 0, 1) := by decide +kernel
theorem d1_29 : decode method_4_code 29 = .ok (.iload_n 1, 1) := by decide +kernel
theorem d1_30 : decode method_4_code 30 = .ok (.castore, 1) := by decide +kernel
theorem d1_31 : decode method_4_code 31 = .ok (.invokespecial 11, 3) := by decide +kernel
theorem d1_34 : decode method_4_code 34 = .ok (.areturn, 1) := by decide +kernel
theorem d1_35 : decode method_4_code 35 = .ok (.new 9, 3) := by decide +kernel
theorem d1_38 : decode method_4_code 38 = .ok (.dup, 1) := by decide +kernel
theorem d1_39 : decode method_4_code 39 = .ok (.iconst 2, 1) := by decide +kernel
theorem d1_40 : decode method_4_code 40 = .ok (.newarray .char, 2) := by decide +kernel
theorem d1_42 : decode method_4_code 42 = .ok (.dup, 1) := by decide +kernel
theorem d1_43 : decode method_4_code 43 = .ok (.iconst 0, 1) := by decide +kernel
theorem d1_44 : decode method_4_code 44 = .ok (.iload_n 1, 1) := by decide +kernel
theorem d1_45 : decode method_4_code 45 = .ok (.castore, 1) := by decide +kernel
theorem d1_46 : decode method_4_code 46 = .ok (.dup, 1) := by decide +kernel
theorem d1_47 : decode method_4_code 47 = .ok (.iconst 1, 1) := by decide +kernel
theorem d1_48 : decode method_4_code 48 = .ok (.iload_n 2, 1) := by decide +kernel
theorem d1_49 : decode method_4_code 49 = .ok (.castore, 1) := by decide +kernel
theorem d1_50 : decode method_4_code 50 = .ok (.invokespecial 11, 3) := by decide +kernel
theorem d1_53 : decode method_4_code 53 = .ok (.areturn, 1) := by decide +kernel
theorem ef_str (m : MethodId) (q0 : Int32) (q1 : Int32) (q2 : Int32) : entryFrame m #[(.int q0), (.int q1), (.int q2)] 3 = mkF m 0 #[.val (.int q0), .val (.int q1), .val (.int q2)] [] := by first | (simp [entryFrame, mkF, argsToLocals, Value.category]; done) | rfl
def Qstr (Z : State) (q0 : Int32) (q1 : Int32) (q2 : Int32) (G1 : Int32) (h0 : Heap) (n0 : Nat) (v : Option Value) (h : Heap) (L : List Loc) : Prop := ∃ (bb : Addr) (tt : Addr) (k0 : ClassId) (cc : Int32) (ll : Int32) (vv : List Value), Fr n0 L ∧ Keep h0 h [] ∧ h0.size ≤ bb ∧ Exa Z h bb "java/lang/String" ∧ Fld Z h bb "java/lang/String" "coder" "B" (.int cc) ∧ Fld Z h bb "java/lang/String" "value" "[B" (.ref tt) ∧ Arv Z h tt k0 .byte ll vv (.int (0 : Int32)) ∧ own_Rep q0 q1 q2 cc ll vv ∧ (v = some (.ref bb))
set_option maxRecDepth 65536 in
set_option maxHeartbeats 40000000 in
theorem rmStr (l : Launch) (Z : State) (a0 : Array Value) (hw : ∀ d ∈ tables_1, d.before a0 Z = true) (ws : List Jvm.Cond) (q0 : Int32) (q1 : Int32) (q2 : Int32) (G1 : Int32) (h0 : Heap) (n0 : Nat) (Z0 : n0 ≤ h0.size) (hS : Sta Z Z.heap "java/lang/String" "COMPACT_STRINGS" "Z" (.int G1)) (hG : ¬ (G1 = (0 : Int32))) (hSa : Sta Z Z.heap "java/lang/StringUTF16" "$assertionsDisabled" "Z" (.int (1 : Int32))) (hSh : Sta Z Z.heap "java/lang/StringUTF16" "HI_BYTE_SHIFT" "I" (.int (0 : Int32))) (hSl : Sta Z Z.heap "java/lang/StringUTF16" "LO_BYTE_SHIFT" "I" (.int (8 : Int32))) (hO : Old Z n0 h0) (hN : own_N q0) (hH1 : own_H q1) (hH2 : own_H q2) :
    MetFree l (⟨"com/example/topics_into_queries/topicsintoqueries/CodePointsComparePinLaw", "str", "(ICC)Ljava/lang/String;"⟩ : MethodName) (head1 (Jvm.Cond.code (⟨"com/example/topics_into_queries/topicsintoqueries/CodePointsComparePinLaw", "str", "(ICC)Ljava/lang/String;"⟩ : MethodName) method_4_code 3 (some (.object "java/lang/String")) :: ws) ({ frames := 6, cells := 4, slots := 12, locals := 88 } : Room)) (fun a U => a = #[(.int q0), (.int q1), (.int q2)] ∧ Z.Warmed39 U.vm ∧ U.heap = h0 ∧ CHv Z own_EL U.vm h0 ∧ ∀ x ∈ ([] : List Addr), Safe Z own_EL U.vm h0 x) (fun _ _ _ _ _ => True) (fun _ U o U' => ∃ v L, o = .returned v ∧ Qstr Z q0 q1 q2 G1 h0 n0 v U'.heap L ∧ CHr Z own_EL U.vm U.heap U'.vm U'.heap ∧ ReturnedEndW U o U' L ({ frames := 6, cells := 4, slots := 12, locals := 88 } : Room).cells ({ frames := 6, cells := 4, slots := 12, locals := 88 } : Room).slots) := by
  refine MetFree.of_bodySF (plainFor_of_name own_pn_1) hisR ?_
  intro p e s m args below meth c s₁ Bd hml0 hP hK
  obtain ⟨rfl, hZ, hh, hCH, hQs⟩ := hP
  have hx := Bd.exec
  have hby := Bd.bytes
  have hml : c.maxLocals = 3 := hml0
  have hown : s.vm.findClass "com/example/topics_into_queries/topicsintoqueries/CodePointsComparePinLaw" = some m.cls := findClass_of_methodNamed Bd.named
  have hnm := (name_of_methodNamed Bd.named Bd.method).1
  have X0 : Stand p l e ({ frames := 6, cells := 4, slots := 12, locals := 88 } : Room) (s.setVm s.vm) m #[(.int q0), (.int q1), (.int q2)] below meth c s₁ [] 0 0 := Stand.of_body Bd
  have e0 : s₁.heap = h0 := by rw [← hh, Bd.state]; rfl
  have N0 := Fr.nil n0
  have pre0 : ∀ t, Steps p.tables e below (s₁.setTop (mkF m 0 #[.val (.int q0), .val (.int q1), .val (.int q2)] [])) t → Steps p.tables e below (s₁.setTop (entryFrame m #[(.int q0), (.int q1), (.int q2)] 3)) t := fun t k => castTop (ef_str m q0 q1 q2) k
  have hZ0 := hZ
  have hown0 := hown
  have hEL : EW Z a0 own_EL := (EW.cons (own_k hw 35 rfl) (by decide) EW.nil)
  have hwS : ∀ a ∈ Bundle.stringAtoms, a.before a0 Z = true := fun d hd => hw d ((by decide +kernel : ∀ d ∈ Bundle.stringAtoms, d ∈ tables_1) d hd)
  have hS0 : s.Since s.vm h0.size := (State.WarmedH.refl s).since _
  have Y0 : h0.size ≤ h0.size := Nat.le_refl _
  have R0 : CHr Z own_EL s.vm h0 s.vm h0 := CHr.refl hCH
  have pre1 : ∀ t, Steps p.tables e below (s₁.setTop (mkF m 1 #[.val (.int q0), .val (.int q1), .val (.int q2)] [(.int q0)])) t → Steps p.tables e below (s₁.setTop (entryFrame m #[(.int q0), (.int q1), (.int q2)] 3)) t := fun t kt => pre0 t (by
    show Steps p.tables e below (s₁.setTop (mkF m 0 #[.val (.int q0), .val (.int q1), .val (.int q2)] [])) _
    refine XS.iloadN X0.here hx rfl (hb hby d1_0) rfl ?_
    exact kt)
  by_cases hcx2 : q0 = (0 : Int32)
  · skip
    obtain ⟨T3, h3, X3, e3, E3, A3, D3, -, st3⟩ := newO X0 hx hZ0 hown0 (own_k hw 5 rfl) (own_k hw 6 rfl) (own_k hw 7 rfl) e0 (g := (mkF m 4 #[.val (.int q0), .val (.int q1), .val (.int q2)] [])) rfl (hb hby d1_4) (by decide) (by decide)
    obtain ⟨b3, g3⟩ : ∃ z, z = h0.size := ⟨_, rfl⟩
    rw [← g3] at A3 D3 st3
    have g_b3 : n0 ≤ b3 := Nat.le_trans Z0 (Nat.le_of_eq g3.symm)
    have q_b3 : Safe Z own_EL s.vm h0 b3 := Safe.new (Nat.le_of_eq g3.symm)
    have sz_b3 : h0.size ≤ b3 := Nat.le_trans (Keep.refl h0 []).1 (Nat.le_of_eq g3.symm)
    have K4 : Keep h0 h3 [] := (Keep.refl h0 []).ext E3
    have R5 : CHr Z own_EL s.vm h0 s.vm h3 := R0.trans (CHr.ext E3 R0.1)
    have F3_coder : Fld Z h3 b3 "java/lang/String" "coder" "B" (.int (0 : Int32)) := D3 (Or.inr (own_k hw 32 rfl)) (ty := .byte) (by decide)
    have F3_value : Fld Z h3 b3 "java/lang/String" "value" "[B" .null := D3 (Or.inr (own_k hw 34 rfl)) (ty := (.array .byte)) (by decide)
    obtain ⟨T6, h6, k6, X6, e6, E6, A6, st6⟩ := newP X3 hx hZ0 (own_k hw 8 rfl) e3 (g := (mkF m 9 #[.val (.int q0), .val (.int q1), .val (.int q2)] [(.int (0 : Int32)), (.ref b3), (.ref b3)])) rfl (hb hby d1_9) rfl (by decide) (cap := 0) (by decide) (by decide) (by decide) (by decide)
    obtain ⟨b6, g6⟩ : ∃ z, z = h3.size := ⟨_, rfl⟩
    rw [← g6] at A6 st6
    have f7 : n0 ≤ h3.size := (Nat.le_trans Z0 E3.1)
    have g_b6 : n0 ≤ b6 := Nat.le_trans f7 (Nat.le_of_eq g6.symm)
    have q_b6 : Safe Z own_EL s.vm h3 b6 := Safe.new (Nat.le_of_eq g6.symm)
    have sz_b6 : h0.size ≤ b6 := Nat.le_trans K4.1 (Nat.le_of_eq g6.symm)
    have K8 : Keep h0 h6 [] := K4.ext E6
    have R9 : CHr Z own_EL s.vm h0 s.vm h6 := R5.trans (CHr.ext E6 R5.1)
    have V6 : Arv Z h6 b6 k6 .char (0 : Int32) [] (.int (0 : Int32)) := Arv.new A6 (by decide)
    have f11 : Exa Z h6 b3 "java/lang/String" := (A3.ext E6)
    have f12 : Fld Z h6 b3 "java/lang/String" "value" "[B" .null := (F3_value.ext E6)
    have f13 : Fld Z h6 b3 "java/lang/String" "coder" "B" (.int (0 : Int32)) := (F3_coder.ext E6)
    have f14 : Safe Z own_EL s.vm h6 b3 := (Safe.ext E6 R5.1 (Safe.ext E3 R0.1 q_b3))
    have f15 : n0 ≤ h6.size := (Nat.le_trans f7 E6.1)
    obtain ⟨_, _, ⟨T10, L10, k10, n10⟩, -, X10, hSq10, hgq10, ⟨Lc10, hQ10, l10, y10, z10, hR10⟩, st10⟩ := X6.specialBackS hx (y := (⟨"java/lang/String", "<init>", "([C)V"⟩ : MethodName)) rfl hown0 (mvT hZ0 (own_k hw 9 rfl)) (mvT hZ0 (own_k hw 10 rfl)) (mvT hZ0 (own_k hw 11 rfl)) (by decide) (own_backSQ (W := 1) (rmS1 l Z a0 hw [] b3 b6 k6 (.int (0 : Int32)) h6 n0 f15 f11 f12 f13 g_b3 V6) hZ0 (own_k hw 11 rfl) (own_k hw 7 rfl) (by decide) (by decide) hEL R9.1 (sfS f14 sf0) (allS f11.lt all0)) (g := (mkF m 11 #[.val (.int q0), .val (.int q1), .val (.int q2)] [(.ref b6), (.ref b3), (.ref b3)])) rfl (by rw [hml]; rfl) (Steps.refl _) (a := b3) (argsL := [(.ref b6)]) (rest := [(.ref b3)]) (lenOf own_pd_13 rfl) rfl (by show 2 * 0 + _ ≤ _; exact Nat.le_of_eq rfl) (hb hby d1_11) (fun _ _ => ⟨rfl, e6, (by decide : 2 + 2 ≤ _), (by decide : 4 + 4 ≤ _)⟩)
    dsimp only [Pt.U, Pt.locs, Pt.cells, Pt.slots] at X10 l10 y10 z10 st10 hQ10 hSq10 hgq10 hR10
    subst l10
    subst y10 z10
    have f16 : h0.size ≤ h6.size := (Nat.le_trans (Nat.le_trans Y0 E3.1) E6.1)
    obtain ⟨Xr10, hS10, hZ10, hown10⟩ := rebS hS0 (k0 := h0.size) (by rw [e6]; exact f16) X10 hSq10 hgq10 hZ0 hown0
    obtain ⟨tt_10, k0_10, Nq10, Kq10, p10_0, p10_1, p10_2, p10_3, hv10⟩ := hQ10
    have N10 := Fr.app N0 Nq10
    have R17 : CHr Z own_EL s.vm h0 T10.vm T10.heap := R9.trans (hR10)
    have Y10 : T10.heap.size ≤ T10.heap.size := Nat.le_refl _
    have K18 : Keep h0 T10.heap [] := K8.trans Kq10 (allS (Or.inr sz_b3) all0)
    subst hv10
    have hRe := R17.trans (CHv.at Xr10 hZ10 hEL R17.1)
    rw [← hh] at hRe
    obtain ⟨fs, hr, hrun, hended, hend⟩ := Xr10.leaveW hS10 Y10 (v := (some (.ref b3))) (fun h => by rw [Bd.returns] at h; cases h)
    refine ⟨_, _, pre1 _ ?_, hrun, hended, _, _, rfl, ?_, hRe, hend.1, hend.2.1, hend.2.2.1, hend.2.2.2.mono (by decide) (by decide)⟩
    · show Steps p.tables e below (s₁.setTop (mkF m 1 #[.val (.int q0), .val (.int q1), .val (.int q2)] [(.int q0)])) _
      refine XS.ifNo X0.here hx rfl (hb hby d1_1) rfl ((if0 _ _).trans (teq hcx2).2) ?_
      show Steps p.tables e below (s₁.setTop (mkF m 4 #[.val (.int q0), .val (.int q1), .val (.int q2)] [])) _
      refine st3 _ ?_
      show Steps p.tables e below (T3.setTop (mkF m 7 #[.val (.int q0), .val (.int q1), .val (.int q2)] [(.ref b3)])) _
      refine XS.dup X3.here hx rfl (hb hby d1_7) rfl rfl ?_
      show Steps p.tables e below (T3.setTop (mkF m 8 #[.val (.int q0), .val (.int q1), .val (.int q2)] [(.ref b3), (.ref b3)])) _
      refine XS.iconst X3.here hx rfl (hb hby d1_8) ?_
      show Steps p.tables e below (T3.setTop (mkF m 9 #[.val (.int q0), .val (.int q1), .val (.int q2)] [(.int (0 : Int32)), (.ref b3), (.ref b3)])) _
      refine st6 _ ?_
      show Steps p.tables e below (T6.setTop (mkF m 11 #[.val (.int q0), .val (.int q1), .val (.int q2)] [(.ref b6), (.ref b3), (.ref b3)])) _
      refine st10.trans ?_
      show Steps p.tables e below (T10.setTop (mkF m 14 #[.val (.int q0), .val (.int q1), .val (.int q2)] [(.ref b3)])) _
      exact retOut Xr10 hx Bd.returns rfl (Or.inr (Or.inr (Or.inr (Or.inr ⟨rfl, rfl, rfl⟩)))) (hb hby d1_14) hr
    · show Qstr Z q0 q1 q2 G1 h0 n0 _ T10.heap _
      exact ⟨b3, tt_10, k0_10, (0 : Int32), (0 : Int32), [], N10, K18, sz_b3, p10_0, p10_1, p10_2, p10_3, (Or.inl ⟨hcx2, rfl, rfl, rfl⟩), rfl⟩
  · skip
    have pre19 : ∀ t, Steps p.tables e below (s₁.setTop (mkF m 17 #[.val (.int q0), .val (.int q1), .val (.int q2)] [(.int (1 : Int32)), (.int q0)])) t → Steps p.tables e below (s₁.setTop (entryFrame m #[(.int q0), (.int q1), (.int q2)] 3)) t := fun t kt => pre1 t (by
      show Steps p.tables e below (s₁.setTop (mkF m 1 #[.val (.int q0), .val (.int q1), .val (.int q2)] [(.int q0)])) _
      refine XS.ifYes X0.here hx rfl (pc0 := 1) (pc' := 15) rfl (hb hby d1_1) rfl ((if0 _ _).trans (feq hcx2).2) (by decide) (by decide) ?_
      show Steps p.tables e below (s₁.setTop (mkF m 15 #[.val (.int q0), .val (.int q1), .val (.int q2)] [])) _
      refine XS.iloadN X0.here hx rfl (hb hby d1_15) rfl ?_
      show Steps p.tables e below (s₁.setTop (mkF m 16 #[.val (.int q0), .val (.int q1), .val (.int q2)] [(.int q0)])) _
      refine XS.iconst X0.here hx rfl (hb hby d1_16) ?_
      exact kt)
    by_cases hcx20 : q0 = (1 : Int32)
    · skip
      obtain ⟨T21, h21, X21, e21, E21, A21, D21, -, st21⟩ := newO X0 hx hZ0 hown0 (own_k hw 5 rfl) (own_k hw 6 rfl) (own_k hw 7 rfl) e0 (g := (mkF m 20 #[.val (.int q0), .val (.int q1), .val (.int q2)] [])) rfl (hb hby d1_20) (by decide) (by decide)
      obtain ⟨b21, g21⟩ : ∃ z, z = h0.size := ⟨_, rfl⟩
      rw [← g21] at A21 D21 st21
      have g_b21 : n0 ≤ b21 := Nat.le_trans Z0 (Nat.le_of_eq g21.symm)
      have q_b21 : Safe Z own_EL s.vm h0 b21 := Safe.new (Nat.le_of_eq g21.symm)
      have sz_b21 : h0.size ≤ b21 := Nat.le_trans (Keep.refl h0 []).1 (Nat.le_of_eq g21.symm)
      have K22 : Keep h0 h21 [] := (Keep.refl h0 []).ext E21
      have R23 : CHr Z own_EL s.vm h0 s.vm h21 := R0.trans (CHr.ext E21 R0.1)
      have F21_coder : Fld Z h21 b21 "java/lang/String" "coder" "B" (.int (0 : Int32)) := D21 (Or.inr (own_k hw 32 rfl)) (ty := .byte) (by decide)
      have F21_value : Fld Z h21 b21 "java/lang/String" "value" "[B" .null := D21 (Or.inr (own_k hw 34 rfl)) (ty := (.array .byte)) (by decide)
      obtain ⟨T24, h24, k24, X24, e24, E24, A24, st24⟩ := newP X21 hx hZ0 (own_k hw 8 rfl) e21 (g := (mkF m 25 #[.val (.int q0), .val (.int q1), .val (.int q2)] [(.int (1 : Int32)), (.ref b21), (.ref b21)])) rfl (hb hby d1_25) rfl (by decide) (cap := 1) (by decide) (by decide) (by decide) (by decide)
      obtain ⟨b24, g24⟩ : ∃ z, z = h21.size := ⟨_, rfl⟩
      rw [← g24] at A24 st24
      have f25 : n0 ≤ h21.size := (Nat.le_trans Z0 E21.1)
      have g_b24 : n0 ≤ b24 := Nat.le_trans f25 (Nat.le_of_eq g24.symm)
      have q_b24 : Safe Z own_EL s.vm h21 b24 := Safe.new (Nat.le_of_eq g24.symm)
      have sz_b24 : h0.size ≤ b24 := Nat.le_trans K22.1 (Nat.le_of_eq g24.symm)
      have K26 : Keep h0 h24 [] := K22.ext E24
      have R27 : CHr Z own_EL s.vm h0 s.vm h24 := R23.trans (CHr.ext E24 R23.1)
      have V24 : Arv Z h24 b24 k24 .char (1 : Int32) [(.int (0 : Int32))] (.int (0 : Int32)) := (Arv.new A24 (by decide)).pad (pad_rep [] (.int (0 : Int32)) 1)
      obtain ⟨cl28, Ar28, q28, S28, M28, H28, G28⟩ := id V24
      have hin28 : ¬ ((0 : Int32) < 0 ∨ cl28.slots.size ≤ ((0 : Int32)).toNatClampNeg) := inb_of S28 ⟨by decide, by decide⟩
      obtain ⟨T28, h28, X28, e28, W28, st28⟩ := stC X24 hx hZ0 e24 Ar28 (j := (0 : Int32)) hin28 (g := (mkF m 30 #[.val (.int q0), .val (.int q1), .val (.int q2)] [(.int q1), (.int (0 : Int32)), (.ref b24), (.ref b24), (.ref b21), (.ref b21)])) rfl rfl (hb hby d1_30)
      have R29 : CHr Z own_EL s.vm h0 s.vm h28 := R27.trans (CHr.wr W28 (Safe.arv hZ0.alike V24 (by decide)) R27.1)
      have N28 := Fr.snoc X28 N0 g_b24
      have K30 : Keep h0 h28 [] := K26.wr W28 (Or.inr sz_b24)
      have V28 : Arv Z h28 b24 k24 .char (1 : Int32) [(.int (nar .char q1))] (.int (0 : Int32)) := Arv.set Ar28 q28 S28 M28 H28 G28 (fits_nar_char _) W28 0 rfl (Nat.le_of_ble_eq_true rfl)
      have f32 : Exa Z h28 b21 "java/lang/String" := ((A21.ext E24).wr W28)
      have f33 : Fld Z h28 b21 "java/lang/String" "value" "[B" .null := ((F21_value.ext E24).other W28 (Or.inl (Nat.ne_of_lt (Nat.lt_of_lt_of_le A21.lt (Nat.le_of_eq g24.symm)))))
      have f34 : Fld Z h28 b21 "java/lang/String" "coder" "B" (.int (0 : Int32)) := ((F21_coder.ext E24).other W28 (Or.inl (Nat.ne_of_lt (Nat.lt_of_lt_of_le A21.lt (Nat.le_of_eq g24.symm)))))
      have f35 : Old Z n0 h28 := (((hO.ext E21).ext E24).wr W28 g_b24)
      have f36 : n0 ≤ h28.size := (Nat.le_trans (Nat.le_trans f25 E24.1) (Keep.of_wr W28).1)
      have f37 : Safe Z own_EL s.vm h28 b21 := (Safe.wr W28 (Safe.arv hZ0.alike V24 (by decide)) R27.1 (Safe.ext E24 R23.1 (Safe.ext E21 R0.1 q_b21)))
      obtain ⟨_, _, ⟨T31, L31, k31, n31⟩, -, X31, ⟨Lc31, hQ31, l31, y31, z31⟩, st31⟩ := X28.specialBack hx (y := (⟨"java/lang/String", "<init>", "([C)V"⟩ : MethodName)) rfl hown0 (mvT hZ0 (own_k hw 9 rfl)) (mvT hZ0 (own_k hw 10 rfl)) (mvT hZ0 (own_k hw 11 rfl)) (by decide) (backOf (W := 1) (rmF11 l Z a0 hw [] b21 b24 k24 (nar .char q1) G1 h28 n0 f36 f32 f33 f34 g_b21 hS (hG) f35 hSa hSh hSl V28 ((own_narH q1))) hZ0 (own_k hw 11 rfl) (own_k hw 7 rfl) (by decide) (by decide)) (g := (mkF m 31 #[.val (.int q0), .val (.int q1), .val (.int q2)] [(.ref b24), (.ref b21), (.ref b21)])) rfl (by rw [hml]; rfl) (Steps.refl _) (a := b21) (argsL := [(.ref b24)]) (rest := [(.ref b21)]) (lenOf own_pd_13 rfl) rfl (by show 2 * 0 + _ ≤ _; exact Nat.le_of_eq rfl) (hb hby d1_31) (fun _ _ => ⟨rfl, e28, (by decide : 2 + 2 ≤ _), (by decide : 5 + 3 ≤ _)⟩)
      dsimp only [Pt.U, Pt.locs, Pt.cells, Pt.slots] at X31 l31 y31 z31 st31 hQ31
      subst l31
      subst y31 z31
      obtain ⟨tt_31, k0_31, cc_31, ll_31, vv_31, Nq31, Kq31, p31_0, p31_1, p31_2, p31_3, p31_4, p31_5, hv31⟩ := hQ31
      have N31 := Fr.app N28 Nq31
      have g_tt_31 : n0 ≤ tt_31 := Nat.le_trans f36 p31_4
      have q_tt_31 : Safe Z own_EL s.vm h28 tt_31 := Safe.new p31_4
      have sz_tt_31 : h0.size ≤ tt_31 := Nat.le_trans K30.1 p31_4
      have R38 : CHr Z own_EL s.vm h0 s.vm T31.heap := R29.trans (CHr.keep Kq31 (sfS f37 sf0) R29.1)
      have K39 : Keep h0 T31.heap [] := K30.trans Kq31 (allS (Or.inr sz_b21) all0)
      subst hv31
      have hRe := R38.trans (CHv.at X31 hZ0 hEL R38.1)
      rw [← hh] at hRe
      have f40 : h0.size ≤ T31.heap.size := (Nat.le_trans (Nat.le_trans (Nat.le_trans (Nat.le_trans Y0 E21.1) E24.1) (Keep.of_wr W28).1) Kq31.1)
      obtain ⟨fs, hr, hrun, hended, hend⟩ := X31.leaveW hS0 f40 (v := (some (.ref b21))) (fun h => by rw [Bd.returns] at h; cases h)
      refine ⟨_, _, pre19 _ ?_, hrun, hended, _, _, rfl, ?_, hRe, hend.1, hend.2.1, hend.2.2.1, hend.2.2.2.mono (by decide) (by decide)⟩
      · show Steps p.tables e below (s₁.setTop (mkF m 17 #[.val (.int q0), .val (.int q1), .val (.int q2)] [(.int (1 : Int32)), (.int q0)])) _
        refine XS.icmpNo X0.here hx rfl (hb hby d1_17) rfl (teq hcx20).2 ?_
        show Steps p.tables e below (s₁.setTop (mkF m 20 #[.val (.int q0), .val (.int q1), .val (.int q2)] [])) _
        refine st21 _ ?_
        show Steps p.tables e below (T21.setTop (mkF m 23 #[.val (.int q0), .val (.int q1), .val (.int q2)] [(.ref b21)])) _
        refine XS.dup X21.here hx rfl (hb hby d1_23) rfl rfl ?_
        show Steps p.tables e below (T21.setTop (mkF m 24 #[.val (.int q0), .val (.int q1), .val (.int q2)] [(.ref b21), (.ref b21)])) _
        refine XS.iconst X21.here hx rfl (hb hby d1_24) ?_
        show Steps p.tables e below (T21.setTop (mkF m 25 #[.val (.int q0), .val (.int q1), .val (.int q2)] [(.int (1 : Int32)), (.ref b21), (.ref b21)])) _
        refine st24 _ ?_
        show Steps p.tables e below (T24.setTop (mkF m 27 #[.val (.int q0), .val (.int q1), .val (.int q2)] [(.ref b24), (.ref b21), (.ref b21)])) _
        refine XS.dup X24.here hx rfl (hb hby d1_27) rfl rfl ?_
        show Steps p.tables e below (T24.setTop (mkF m 28 #[.val (.int q0), .val (.int q1), .val (.int q2)] [(.ref b24), (.ref b24), (.ref b21), (.ref b21)])) _
        refine XS.iconst X24.here hx rfl (hb hby d1_28) ?_
        show Steps p.tables e below (T24.setTop (mkF m 29 #[.val (.int q0), .val (.int q1), .val (.int q2)] [(.int (0 : Int32)), (.ref b24), (.ref b24), (.ref b21), (.ref b21)])) _
        refine XS.iloadN X24.here hx rfl (hb hby d1_29) rfl ?_
        show Steps p.tables e below (T24.setTop (mkF m 30 #[.val (.int q0), .val (.int q1), .val (.int q2)] [(.int q1), (.int (0 : Int32)), (.ref b24), (.ref b24), (.ref b21), (.ref b21)])) _
        refine st28 _ ?_
        show Steps p.tables e below (T28.setTop (mkF m 31 #[.val (.int q0), .val (.int q1), .val (.int q2)] [(.ref b24), (.ref b21), (.ref b21)])) _
        refine st31.trans ?_
        show Steps p.tables e below (T31.setTop (mkF m 34 #[.val (.int q0), .val (.int q1), .val (.int q2)] [(.ref b21)])) _
        exact retOut X31 hx Bd.returns rfl (Or.inr (Or.inr (Or.inr (Or.inr ⟨rfl, rfl, rfl⟩)))) (hb hby d1_34) hr
      · show Qstr Z q0 q1 q2 G1 h0 n0 _ T31.heap _
        exact ⟨b21, tt_31, k0_31, cc_31, ll_31, vv_31, N31, K39, sz_b21, p31_0, p31_1, p31_2, p31_3, (by have r := p31_5; rw [own_narE hH1] at r; rw [hcx20]; exact own_Rep1 r), rfl⟩
    · skip
      obtain ⟨T41, h41, X41, e41, E41, A41, D41, -, st41⟩ := newO X0 hx hZ0 hown0 (own_k hw 5 rfl) (own_k hw 6 rfl) (own_k hw 7 rfl) e0 (g := (mkF m 35 #[.val (.int q0), .val (.int q1), .val (.int q2)] [])) rfl (hb hby d1_35) (by decide) (by decide)
      obtain ⟨b41, g41⟩ : ∃ z, z = h0.size := ⟨_, rfl⟩
      rw [← g41] at A41 D41 st41
      have g_b41 : n0 ≤ b41 := Nat.le_trans Z0 (Nat.le_of_eq g41.symm)
      have q_b41 : Safe Z own_EL s.vm h0 b41 := Safe.new (Nat.le_of_eq g41.symm)
      have sz_b41 : h0.size ≤ b41 := Nat.le_trans (Keep.refl h0 []).1 (Nat.le_of_eq g41.symm)
      have K42 : Keep h0 h41 [] := (Keep.refl h0 []).ext E41
      have R43 : CHr Z own_EL s.vm h0 s.vm h41 := R0.trans (CHr.ext E41 R0.1)
      have F41_coder : Fld Z h41 b41 "java/lang/String" "coder" "B" (.int (0 : Int32)) := D41 (Or.inr (own_k hw 32 rfl)) (ty := .byte) (by decide)
      have F41_value : Fld Z h41 b41 "java/lang/String" "value" "[B" .null := D41 (Or.inr (own_k hw 34 rfl)) (ty := (.array .byte)) (by decide)
      obtain ⟨T44, h44, k44, X44, e44, E44, A44, st44⟩ := newP X41 hx hZ0 (own_k hw 8 rfl) e41 (g := (mkF m 40 #[.val (.int q0), .val (.int q1), .val (.int q2)] [(.int (2 : Int32)), (.ref b41), (.ref b41)])) rfl (hb hby d1_40) rfl (by decide) (cap := 2) (by decide) (by decide) (by decide) (by decide)
      obtain ⟨b44, g44⟩ : ∃ z, z = h41.size := ⟨_, rfl⟩
      rw [← g44] at A44 st44
      have f45 : n0 ≤ h41.size := (Nat.le_trans Z0 E41.1)
      have g_b44 : n0 ≤ b44 := Nat.le_trans f45 (Nat.le_of_eq g44.symm)
      have q_b44 : Safe Z own_EL s.vm h41 b44 := Safe.new (Nat.le_of_eq g44.symm)
      have sz_b44 : h0.size ≤ b44 := Nat.le_trans K42.1 (Nat.le_of_eq g44.symm)
      have K46 : Keep h0 h44 [] := K42.ext E44
      have R47 : CHr Z own_EL s.vm h0 s.vm h44 := R43.trans (CHr.ext E44 R43.1)
      have V44 : Arv Z h44 b44 k44 .char (2 : Int32) [(.int (0 : Int32)), (.int (0 : Int32))] (.int (0 : Int32)) := (Arv.new A44 (by decide)).pad (pad_rep [] (.int (0 : Int32)) 2)
      obtain ⟨cl48, Ar48, q48, S48, M48, H48, G48⟩ := id V44
      have hin48 : ¬ ((0 : Int32) < 0 ∨ cl48.slots.size ≤ ((0 : Int32)).toNatClampNeg) := inb_of S48 ⟨by decide, by decide⟩
      obtain ⟨T48, h48, X48, e48, W48, st48⟩ := stC X44 hx hZ0 e44 Ar48 (j := (0 : Int32)) hin48 (g := (mkF m 45 #[.val (.int q0), .val (.int q1), .val (.int q2)] [(.int q1), (.int (0 : Int32)), (.ref b44), (.ref b44), (.ref b41), (.ref b41)])) rfl rfl (hb hby d1_45)
      have R49 : CHr Z own_EL s.vm h0 s.vm h48 := R47.trans (CHr.wr W48 (Safe.arv hZ0.alike V44 (by decide)) R47.1)
      have N48 := Fr.snoc X48 N0 g_b44
      have K50 : Keep h0 h48 [] := K46.wr W48 (Or.inr sz_b44)
      have V48 : Arv Z h48 b44 k44 .char (2 : Int32) [(.int (nar .char q1)), (.int (0 : Int32))] (.int (0 : Int32)) := Arv.set Ar48 q48 S48 M48 H48 G48 (fits_nar_char _) W48 0 rfl (Nat.le_of_ble_eq_true rfl)
      obtain ⟨cl51, Ar51, q51, S51, M51, H51, G51⟩ := id V48
      have hin51 : ¬ ((1 : Int32) < 0 ∨ cl51.slots.size ≤ ((1 : Int32)).toNatClampNeg) := inb_of S51 ⟨by decide, by decide⟩
      obtain ⟨T51, h51, X51, e51, W51, st51⟩ := stC X48 hx hZ0 e48 Ar51 (j := (1 : Int32)) hin51 (g := (mkF m 49 #[.val (.int q0), .val (.int q1), .val (.int q2)] [(.int q2), (.int (1 : Int32)), (.ref b44), (.ref b44), (.ref b41), (.ref b41)])) rfl rfl (hb hby d1_49)
      have R52 : CHr Z own_EL s.vm h0 s.vm h51 := R49.trans (CHr.wr W51 (Safe.arv hZ0.alike V48 (by decide)) R49.1)
      have N51 := Fr.snoc X51 N48 g_b44
      have K53 : Keep h0 h51 [] := K50.wr W51 (Or.inr sz_b44)
      have V51 : Arv Z h51 b44 k44 .char (2 : Int32) [(.int (nar .char q1)), (.int (nar .char q2))] (.int (0 : Int32)) := Arv.set Ar51 q51 S51 M51 H51 G51 (fits_nar_char _) W51 1 rfl (Nat.le_of_ble_eq_true rfl)
      have f55 : Exa Z h51 b41 "java/lang/String" := (((A41.ext E44).wr W48).wr W51)
      have f56 : Fld Z h51 b41 "java/lang/String" "value" "[B" .null := (((F41_value.ext E44).other W48 (Or.inl (Nat.ne_of_lt (Nat.lt_of_lt_of_le A41.lt (Nat.le_of_eq g44.symm))))).other W51 (Or.inl (Nat.ne_of_lt (Nat.lt_of_lt_of_le A41.lt (Nat.le_of_eq g44.symm)))))
      have f57 : Fld Z h51 b41 "java/lang/String" "coder" "B" (.int (0 : Int32)) := (((F41_coder.ext E44).other W48 (Or.inl (Nat.ne_of_lt (Nat.lt_of_lt_of_le A41.lt (Nat.le_of_eq g44.symm))))).other W51 (Or.inl (Nat.ne_of_lt (Nat.lt_of_lt_of_le A41.lt (Nat.le_of_eq g44.symm)))))
      have f58 : Old Z n0 h51 := ((((hO.ext E41).ext E44).wr W48 g_b44).wr W51 g_b44)
      have f59 : n0 ≤ h51.size := (Nat.le_trans (Nat.le_trans (Nat.le_trans f45 E44.1) (Keep.of_wr W48).1) (Keep.of_wr W51).1)
      have f60 : Safe Z own_EL s.vm h51 b41 := (Safe.wr W51 (Safe.arv hZ0.alike V48 (by decide)) R49.1 (Safe.wr W48 (Safe.arv hZ0.alike V44 (by decide)) R47.1 (Safe.ext E44 R43.1 (Safe.ext E41 R0.1 q_b41))))
      obtain ⟨_, _, ⟨T54, L54, k54, n54⟩, -, X54, ⟨Lc54, hQ54, l54, y54, z54⟩, st54⟩ := X51.specialBack hx (y := (⟨"java/lang/String", "<init>", "([C)V"⟩ : MethodName)) rfl hown0 (mvT hZ0 (own_k hw 9 rfl)) (mvT hZ0 (own_k hw 10 rfl)) (mvT hZ0 (own_k hw 11 rfl)) (by decide) (backOf (W := 1) (rmF12 l Z a0 hw [] b41 b44 k44 (nar .char q1) (nar .char q2) G1 h51 n0 f59 f55 f56 f57 g_b41 hS (hG) f58 hSa hSh hSl V51 ((own_narH q1)) ((own_narH q2))) hZ0 (own_k hw 11 rfl) (own_k hw 7 rfl) (by decide) (by decide)) (g := (mkF m 50 #[.val (.int q0), .val (.int q1), .val (.int q2)] [(.ref b44), (.ref b41), (.ref b41)])) rfl (by rw [hml]; rfl) (Steps.refl _) (a := b41) (argsL := [(.ref b44)]) (rest := [(.ref b41)]) (lenOf own_pd_13 rfl) rfl (by show 2 * 0 + _ ≤ _; exact Nat.le_of_eq rfl) (hb hby d1_50) (fun _ _ => ⟨rfl, e51, (by decide : 2 + 2 ≤ _), (by decide : 6 + 6 ≤ _)⟩)
      dsimp only [Pt.U, Pt.locs, Pt.cells, Pt.slots] at X54 l54 y54 z54 st54 hQ54
      subst l54
      subst y54 z54
      obtain ⟨tt_54, k0_54, cc_54, ll_54, vv_54, Nq54, Kq54, p54_0, p54_1, p54_2, p54_3, p54_4, p54_5, hv54⟩ := hQ54
      have N54 := Fr.app N51 Nq54
      have g_tt_54 : n0 ≤ tt_54 := Nat.le_trans f59 p54_4
      have q_tt_54 : Safe Z own_EL s.vm h51 tt_54 := Safe.new p54_4
      have sz_tt_54 : h0.size ≤ tt_54 := Nat.le_trans K53.1 p54_4
      have R61 : CHr Z own_EL s.vm h0 s.vm T54.heap := R52.trans (CHr.keep Kq54 (sfS f60 sf0) R52.1)
      have K62 : Keep h0 T54.heap [] := K53.trans Kq54 (allS (Or.inr sz_b41) all0)
      subst hv54
      have hRe := R61.trans (CHv.at X54 hZ0 hEL R61.1)
      rw [← hh] at hRe
      have f63 : h0.size ≤ T54.heap.size := (Nat.le_trans (Nat.le_trans (Nat.le_trans (Nat.le_trans (Nat.le_trans Y0 E41.1) E44.1) (Keep.of_wr W48).1) (Keep.of_wr W51).1) Kq54.1)
      obtain ⟨fs, hr, hrun, hended, hend⟩ := X54.leaveW hS0 f63 (v := (some (.ref b41))) (fun h => by rw [Bd.returns] at h; cases h)
      refine ⟨_, _, pre19 _ ?_, hrun, hended, _, _, rfl, ?_, hRe, hend.1, hend.2.1, hend.2.2.1, hend.2.2.2.mono (by decide) (by decide)⟩
      · show Steps p.tables e below (s₁.setTop (mkF m 17 #[.val (.int q0), .val (.int q1), .val (.int q2)] [(.int (1 : Int32)), (.int q0)])) _
        refine XS.icmpYes X0.here hx rfl (pc0 := 17) (pc' := 35) rfl (hb hby d1_17) rfl (feq hcx20).2 (by decide) (by decide) ?_
        show Steps p.tables e below (s₁.setTop (mkF m 35 #[.val (.int q0), .val (.int q1), .val (.int q2)] [])) _
        refine st41 _ ?_
        show Steps p.tables e below (T41.setTop (mkF m 38 #[.val (.int q0), .val (.int q1), .val (.int q2)] [(.ref b41)])) _
        refine XS.dup X41.here hx rfl (hb hby d1_38) rfl rfl ?_
        show Steps p.tables e below (T41.setTop (mkF m 39 #[.val (.int q0), .val (.int q1), .val (.int q2)] [(.ref b41), (.ref b41)])) _
        refine XS.iconst X41.here hx rfl (hb hby d1_39) ?_
        show Steps p.tables e below (T41.setTop (mkF m 40 #[.val (.int q0), .val (.int q1), .val (.int q2)] [(.int (2 : Int32)), (.ref b41), (.ref b41)])) _
        refine st44 _ ?_
        show Steps p.tables e below (T44.setTop (mkF m 42 #[.val (.int q0), .val (.int q1), .val (.int q2)] [(.ref b44), (.ref b41), (.ref b41)])) _
        refine XS.dup X44.here hx rfl (hb hby d1_42) rfl rfl ?_
        show Steps p.tables e below (T44.setTop (mkF m 43 #[.val (.int q0), .val (.int q1), .val (.int q2)] [(.ref b44), (.ref b44), (.ref b41), (.ref b41)])) _
        refine XS.iconst X44.here hx rfl (hb hby d1_43) ?_
        show Steps p.tables e below (T44.setTop (mkF m 44 #[.val (.int q0), .val (.int q1), .val (.int q2)] [(.int (0 : Int32)), (.ref b44), (.ref b44), (.ref b41), (.ref b41)])) _
        refine XS.iloadN X44.here hx rfl (hb hby d1_44) rfl ?_
        show Steps p.tables e below (T44.setTop (mkF m 45 #[.val (.int q0), .val (.int q1), .val (.int q2)] [(.int q1), (.int (0 : Int32)), (.ref b44), (.ref b44), (.ref b41), (.ref b41)])) _
        refine st48 _ ?_
        show Steps p.tables e below (T48.setTop (mkF m 46 #[.val (.int q0), .val (.int q1), .val (.int q2)] [(.ref b44), (.ref b41), (.ref b41)])) _
        refine XS.dup X48.here hx rfl (hb hby d1_46) rfl rfl ?_
        show Steps p.tables e below (T48.setTop (mkF m 47 #[.val (.int q0), .val (.int q1), .val (.int q2)] [(.ref b44), (.ref b44), (.ref b41), (.ref b41)])) _
        refine XS.iconst X48.here hx rfl (hb hby d1_47) ?_
        show Steps p.tables e below (T48.setTop (mkF m 48 #[.val (.int q0), .val (.int q1), .val (.int q2)] [(.int (1 : Int32)), (.ref b44), (.ref b44), (.ref b41), (.ref b41)])) _
        refine XS.iloadN X48.here hx rfl (hb hby d1_48) rfl ?_
        show Steps p.tables e below (T48.setTop (mkF m 49 #[.val (.int q0), .val (.int q1), .val (.int q2)] [(.int q2), (.int (1 : Int32)), (.ref b44), (.ref b44), (.ref b41), (.ref b41)])) _
        refine st51 _ ?_
        show Steps p.tables e below (T51.setTop (mkF m 50 #[.val (.int q0), .val (.int q1), .val (.int q2)] [(.ref b44), (.ref b41), (.ref b41)])) _
        refine st54.trans ?_
        show Steps p.tables e below (T54.setTop (mkF m 53 #[.val (.int q0), .val (.int q1), .val (.int q2)] [(.ref b41)])) _
        exact retOut X54 hx Bd.returns rfl (Or.inr (Or.inr (Or.inr (Or.inr ⟨rfl, rfl, rfl⟩)))) (hb hby d1_53) hr
      · show Qstr Z q0 q1 q2 G1 h0 n0 _ T54.heap _
        exact ⟨b41, tt_54, k0_54, cc_54, ll_54, vv_54, N54, K62, sz_b41, p54_0, p54_1, p54_2, p54_3, (by have r := p54_5; have e2 : q0 = (2 : Int32) := (by rcases hN with q | q | q; exact absurd q hcx2; exact absurd q hcx20; exact q); rw [own_narE hH1, own_narE hH2] at r; rw [e2]; exact r), rfl⟩
theorem d12_0 : decode jdk_42_method_152_code 0 = .ok (.getstatic 38, 3) := by decide +kernel
theorem d12_3 : decode jdk_42_method_152_code 3 = .ok (.ifCond .eq 10, 3) := by decide +kernel
theorem d12_6 : decode jdk_42_method_152_code 6 = .ok (.aload_n 0, 1) := by decide +kernel
theorem d12_7 : decode jdk_42_method_152_code 7 = .ok (.getfield 15, 3) := by decide +kernel
theorem d12_10 : decode jdk_42_method_152_code 10 = .ok (.goto 4, 3) := by decide +kernel
theorem d12_14 : decode jdk_42_method_152_code 14 = .ok (.ireturn, 1) := by decide +kernel
theorem ef_co0 (m : MethodId) (a1 : Addr) : entryFrame m #[(.ref a1)] 1 = mkF m 0 #[.val (.ref a1)] [] := by first | (simp [entryFrame, mkF, argsToLocals, Value.category]; done) | rfl
def Qco0 (Z : State) (a1 : Addr) (G1 : Int32) (h0 : Heap) (n0 : Nat) (v : Option Value) (h : Heap) (L : List Loc) : Prop := Fr n0 L ∧ h = h0 ∧ (v = some (.int (0 : Int32)))
set_option maxRecDepth 65536 in
set_option maxHeartbeats 40000000 in
theorem rmCo0 (l : Launch) (Z : State) (a0 : Array Value) (hw : ∀ d ∈ tables_1, d.before a0 Z = true) (ws : List Jvm.Cond) (a1 : Addr) (G1 : Int32) (h0 : Heap) (n0 : Nat) (Z0 : n0 ≤ h0.size) (hS : Sta Z Z.heap "java/lang/String" "COMPACT_STRINGS" "Z" (.int G1)) (hG : ¬ (G1 = (0 : Int32))) (hO : Old Z n0 h0) (hF : Fld Z h0 a1 "java/lang/String" "coder" "B" (.int (0 : Int32))) :
    MetFree l (⟨"java/lang/String", "coder", "()B"⟩ : MethodName) (head1 (Jvm.Cond.code (⟨"java/lang/String", "coder", "()B"⟩ : MethodName) jdk_42_method_152_code 1 (some .byte) :: ws) ({ frames := 0, cells := 0, slots := 0, locals := 0 } : Room)) (fun a U => a = #[(.ref a1)] ∧ Z.Warmed39 U.vm ∧ U.heap = h0) (fun _ _ _ _ _ => True) (fun _ U o U' => ∃ v L, o = .returned v ∧ Qco0 Z a1 G1 h0 n0 v U'.heap L ∧ FrameEnd U o U' L ({ frames := 0, cells := 0, slots := 0, locals := 0 } : Room).cells ({ frames := 0, cells := 0, slots := 0, locals := 0 } : Room).slots) := by
  refine MetFree.of_bodySF (plainFor_of_name own_pn_5) hisR ?_
  intro p e s m args below meth c s₁ Bd hml0 hP hK
  obtain ⟨rfl, hZ, hh⟩ := hP
  have hx := Bd.exec
  have hby := Bd.bytes
  have hml : c.maxLocals = 1 := hml0
  have hown : s.vm.findClass "java/lang/String" = some m.cls := findClass_of_methodNamed Bd.named
  have hnm := (name_of_methodNamed Bd.named Bd.method).1
  have X0 : Stand p l e ({ frames := 0, cells := 0, slots := 0, locals := 0 } : Room) s m #[(.ref a1)] below meth c s₁ [] 0 0 := Stand.of_body Bd
  have e0 : s₁.heap = h0 := by rw [← hh, Bd.state]; rfl
  have N0 := Fr.nil n0
  have pre0 : ∀ t, Steps p.tables e below (s₁.setTop (mkF m 0 #[.val (.ref a1)] [])) t → Steps p.tables e below (s₁.setTop (entryFrame m #[(.ref a1)] 1)) t := fun t k => castTop (ef_co0 m a1) k
  obtain ⟨T1, X1, e1, st1⟩ := getS2 X0 hx hZ hown (host := "") (Or.inl (own_k hw 19 rfl)) Via.refl e0 (hS.ext hO.2) (g := (mkF m 0 #[.val (.ref a1)] [])) rfl (hb hby d12_0)
  obtain ⟨T2, X2, e2, st2⟩ := getF X1 hx hZ hown (host := "") (Or.inl (own_k hw 31 rfl)) Via.refl e1 hF (g := (mkF m 7 #[.val (.ref a1)] [(.ref a1)])) rfl rfl (hb hby d12_7)
  obtain ⟨fs, hr, hrun, hended, hW, hsame⟩ := X2.leave (v := (some (.int (0 : Int32)))) (fun h => by rw [Bd.returns] at h; cases h)
  refine ⟨_, _, pre0 _ ?_, hrun, hended, _, _, rfl, ?_, ⟨_, rfl⟩, hW, hsame.mono (by decide) (by decide)⟩
  · show Steps p.tables e below (s₁.setTop (mkF m 0 #[.val (.ref a1)] [])) _
    refine st1 _ ?_
    show Steps p.tables e below (T1.setTop (mkF m 3 #[.val (.ref a1)] [(.int G1)])) _
    refine XS.ifNo X1.here hx rfl (hb hby d12_3) rfl ((if0 _ _).trans (feq hG).1) ?_
    show Steps p.tables e below (T1.setTop (mkF m 6 #[.val (.ref a1)] [])) _
    refine XS.aloadN X1.here hx rfl (hb hby d12_6) rfl rfl ?_
    show Steps p.tables e below (T1.setTop (mkF m 7 #[.val (.ref a1)] [(.ref a1)])) _
    refine st2 _ ?_
    show Steps p.tables e below (T2.setTop (mkF m 10 #[.val (.ref a1)] [(.int (0 : Int32))])) _
    refine XS.goto X2.here hx rfl (pc0 := 10) (pc' := 14) rfl (hb hby d12_10) (by decide) (by decide) ?_
    show Steps p.tables e below (T2.setTop (mkF m 14 #[.val (.ref a1)] [(.int (0 : Int32))])) _
    exact retN X2 hx (t := .byte) Bd.returns (by simp) (hb hby d12_14) hr
  · show Qco0 Z a1 G1 h0 n0 _ T2.heap _
    rw [e2]
    exact ⟨N0, rfl, rfl⟩
theorem ef_co1 (m : MethodId) (a1 : Addr) : entryFrame m #[(.ref a1)] 1 = mkF m 0 #[.val (.ref a1)] [] := by first | (simp [entryFrame, mkF, argsToLocals, Value.category]; done) | rfl
def Qco1 (Z : State) (a1 : Addr) (G1 : Int32) (h0 : Heap) (n0 : Nat) (v : Option Value) (h : Heap) (L : List Loc) : Prop := Fr n0 L ∧ h = h0 ∧ (v = some (.int (1 : Int32)))
set_option maxRecDepth 65536 in
set_option maxHeartbeats 40000000 in
theorem rmCo1 (l : Launch) (Z : State) (a0 : Array Value) (hw : ∀ d ∈ tables_1, d.before a0 Z = true) (ws : List Jvm.Cond) (a1 : Addr) (G1 : Int32) (h0 : Heap) (n0 : Nat) (Z0 : n0 ≤ h0.size) (hS : Sta Z Z.heap "java/lang/String" "COMPACT_STRINGS" "Z" (.int G1)) (hG : ¬ (G1 = (0 : Int32))) (hO : Old Z n0 h0) (hF : Fld Z h0 a1 "java/lang/String" "coder" "B" (.int (1 : Int32))) :
    MetFree l (⟨"java/lang/String", "coder", "()B"⟩ : MethodName) (head1 (Jvm.Cond.code (⟨"java/lang/String", "coder", "()B"⟩ : MethodName) jdk_42_method_152_code 1 (some .byte) :: ws) ({ frames := 0, cells := 0, slots := 0, locals := 0 } : Room)) (fun a U => a = #[(.ref a1)] ∧ Z.Warmed39 U.vm ∧ U.heap = h0) (fun _ _ _ _ _ => True) (fun _ U o U' => ∃ v L, o = .returned v ∧ Qco1 Z a1 G1 h0 n0 v U'.heap L ∧ FrameEnd U o U' L ({ frames := 0, cells := 0, slots := 0, locals := 0 } : Room).cells ({ frames := 0, cells := 0, slots := 0, locals := 0 } : Room).slots) := by
  refine MetFree.of_bodySF (plainFor_of_name own_pn_5) hisR ?_
  intro p e s m args below meth c s₁ Bd hml0 hP hK
  obtain ⟨rfl, hZ, hh⟩ := hP
  have hx := Bd.exec
  have hby := Bd.bytes
  have hml : c.maxLocals = 1 := hml0
  have hown : s.vm.findClass "java/lang/String" = some m.cls := findClass_of_methodNamed Bd.named
  have hnm := (name_of_methodNamed Bd.named Bd.method).1
  have X0 : Stand p l e ({ frames := 0, cells := 0, slots := 0, locals := 0 } : Room) s m #[(.ref a1)] below meth c s₁ [] 0 0 := Stand.of_body Bd
  have e0 : s₁.heap = h0 := by rw [← hh, Bd.state]; rfl
  have N0 := Fr.nil n0
  have pre0 : ∀ t, Steps p.tables e below (s₁.setTop (mkF m 0 #[.val (.ref a1)] [])) t → Steps p.tables e below (s₁.setTop (entryFrame m #[(.ref a1)] 1)) t := fun t k => castTop (ef_co1 m a1) k
  obtain ⟨T1, X1, e1, st1⟩ := getS2 X0 hx hZ hown (host := "") (Or.inl (own_k hw 19 rfl)) Via.refl e0 (hS.ext hO.2) (g := (mkF m 0 #[.val (.ref a1)] [])) rfl (hb hby d12_0)
  obtain ⟨T2, X2, e2, st2⟩ := getF X1 hx hZ hown (host := "") (Or.inl (own_k hw 31 rfl)) Via.refl e1 hF (g := (mkF m 7 #[.val (.ref a1)] [(.ref a1)])) rfl rfl (hb hby d12_7)
  obtain ⟨fs, hr, hrun, hended, hW, hsame⟩ := X2.leave (v := (some (.int (1 : Int32)))) (fun h => by rw [Bd.returns] at h; cases h)
  refine ⟨_, _, pre0 _ ?_, hrun, hended, _, _, rfl, ?_, ⟨_, rfl⟩, hW, hsame.mono (by decide) (by decide)⟩
  · show Steps p.tables e below (s₁.setTop (mkF m 0 #[.val (.ref a1)] [])) _
    refine st1 _ ?_
    show Steps p.tables e below (T1.setTop (mkF m 3 #[.val (.ref a1)] [(.int G1)])) _
    refine XS.ifNo X1.here hx rfl (hb hby d12_3) rfl ((if0 _ _).trans (feq hG).1) ?_
    show Steps p.tables e below (T1.setTop (mkF m 6 #[.val (.ref a1)] [])) _
    refine XS.aloadN X1.here hx rfl (hb hby d12_6) rfl rfl ?_
    show Steps p.tables e below (T1.setTop (mkF m 7 #[.val (.ref a1)] [(.ref a1)])) _
    refine st2 _ ?_
    show Steps p.tables e below (T2.setTop (mkF m 10 #[.val (.ref a1)] [(.int (1 : Int32))])) _
    refine XS.goto X2.here hx rfl (pc0 := 10) (pc' := 14) rfl (hb hby d12_10) (by decide) (by decide) ?_
    show Steps p.tables e below (T2.setTop (mkF m 14 #[.val (.ref a1)] [(.int (1 : Int32))])) _
    exact retN X2 hx (t := .byte) Bd.returns (by simp) (hb hby d12_14) hr
  · show Qco1 Z a1 G1 h0 n0 _ T2.heap _
    rw [e2]
    exact ⟨N0, rfl, rfl⟩
theorem d21_0 : decode jdk_42_method_154_code 0 = .ok (.getstatic 38, 3) := by decide +kernel
theorem d21_3 : decode jdk_42_method_154_code 3 = .ok (.ifCond .eq 14, 3) := by decide +kernel
theorem d21_6 : decode jdk_42_method_154_code 6 = .ok (.aload_n 0, 1) := by decide +kernel
theorem d21_7 : decode jdk_42_method_154_code 7 = .ok (.getfield 15, 3) := by decide +kernel
theorem d21_10 : decode jdk_42_method_154_code 10 = .ok (.ifCond .ne 7, 3) := by decide +kernel
theorem d21_13 : decode jdk_42_method_154_code 13 = .ok (.iconst 1, 1) := by decide +kernel
theorem d21_14 : decode jdk_42_method_154_code 14 = .ok (.goto 4, 3) := by decide +kernel
theorem d21_18 : decode jdk_42_method_154_code 18 = .ok (.ireturn, 1) := by decide +kernel
theorem ef_il0 (m : MethodId) (a1 : Addr) : entryFrame m #[(.ref a1)] 1 = mkF m 0 #[.val (.ref a1)] [] := by first | (simp [entryFrame, mkF, argsToLocals, Value.category]; done) | rfl
def Qil0 (Z : State) (a1 : Addr) (G1 : Int32) (h0 : Heap) (n0 : Nat) (v : Option Value) (h : Heap) (L : List Loc) : Prop := Fr n0 L ∧ h = h0 ∧ (v = some (.int (1 : Int32)))
set_option maxRecDepth 65536 in
set_option maxHeartbeats 40000000 in
theorem rmIl0 (l : Launch) (Z : State) (a0 : Array Value) (hw : ∀ d ∈ tables_1, d.before a0 Z = true) (ws : List Jvm.Cond) (a1 : Addr) (G1 : Int32) (h0 : Heap) (n0 : Nat) (Z0 : n0 ≤ h0.size) (hS : Sta Z Z.heap "java/lang/String" "COMPACT_STRINGS" "Z" (.int G1)) (hG : ¬ (G1 = (0 : Int32))) (hO : Old Z n0 h0) (hF : Fld Z h0 a1 "java/lang/String" "coder" "B" (.int (0 : Int32))) :
    MetFree l (⟨"java/lang/String", "isLatin1", "()Z"⟩ : MethodName) (head1 (Jvm.Cond.code (⟨"java/lang/String", "isLatin1", "()Z"⟩ : MethodName) jdk_42_method_154_code 1 (some .boolean) :: ws) ({ frames := 0, cells := 0, slots := 0, locals := 0 } : Room)) (fun a U => a = #[(.ref a1)] ∧ Z.Warmed39 U.vm ∧ U.heap = h0) (fun _ _ _ _ _ => True) (fun _ U o U' => ∃ v L, o = .returned v ∧ Qil0 Z a1 G1 h0 n0 v U'.heap L ∧ FrameEnd U o U' L ({ frames := 0, cells := 0, slots := 0, locals := 0 } : Room).cells ({ frames := 0, cells := 0, slots := 0, locals := 0 } : Room).slots) := by
  refine MetFree.of_bodySF (plainFor_of_name own_pn_5) hisR ?_
  intro p e s m args below meth c s₁ Bd hml0 hP hK
  obtain ⟨rfl, hZ, hh⟩ := hP
  have hx := Bd.exec
  have hby := Bd.bytes
  have hml : c.maxLocals = 1 := hml0
  have hown : s.vm.findClass "java/lang/String" = some m.cls := findClass_of_methodNamed Bd.named
  have hnm := (name_of_methodNamed Bd.named Bd.method).1
  have X0 : Stand p l e ({ frames := 0, cells := 0, slots := 0, locals := 0 } : Room) s m #[(.ref a1)] below meth c s₁ [] 0 0 := Stand.of_body Bd
  have e0 : s₁.heap = h0 := by rw [← hh, Bd.state]; rfl
  have N0 := Fr.nil n0
  have pre0 : ∀ t, Steps p.tables e below (s₁.setTop (mkF m 0 #[.val (.ref a1)] [])) t → Steps p.tables e below (s₁.setTop (entryFrame m #[(.ref a1)] 1)) t := fun t k => castTop (ef_il0 m a1) k
  obtain ⟨T1, X1, e1, st1⟩ := getS2 X0 hx hZ hown (host := "") (Or.inl (own_k hw 19 rfl)) Via.refl e0 (hS.ext hO.2) (g := (mkF m 0 #[.val (.ref a1)] [])) rfl (hb hby d21_0)
  obtain ⟨T2, X2, e2, st2⟩ := getF X1 hx hZ hown (host := "") (Or.inl (own_k hw 31 rfl)) Via.refl e1 hF (g := (mkF m 7 #[.val (.ref a1)] [(.ref a1)])) rfl rfl (hb hby d21_7)
  obtain ⟨fs, hr, hrun, hended, hW, hsame⟩ := X2.leave (v := (some (.int (1 : Int32)))) (fun h => by rw [Bd.returns] at h; cases h)
  refine ⟨_, _, pre0 _ ?_, hrun, hended, _, _, rfl, ?_, ⟨_, rfl⟩, hW, hsame.mono (by decide) (by decide)⟩
  · show Steps p.tables e below (s₁.setTop (mkF m 0 #[.val (.ref a1)] [])) _
    refine st1 _ ?_
    show Steps p.tables e below (T1.setTop (mkF m 3 #[.val (.ref a1)] [(.int G1)])) _
    refine XS.ifNo X1.here hx rfl (hb hby d21_3) rfl ((if0 _ _).trans (feq hG).1) ?_
    show Steps p.tables e below (T1.setTop (mkF m 6 #[.val (.ref a1)] [])) _
    refine XS.aloadN X1.here hx rfl (hb hby d21_6) rfl rfl ?_
    show Steps p.tables e below (T1.setTop (mkF m 7 #[.val (.ref a1)] [(.ref a1)])) _
    refine st2 _ ?_
    show Steps p.tables e below (T2.setTop (mkF m 10 #[.val (.ref a1)] [(.int (0 : Int32))])) _
    refine XS.ifNo X2.here hx rfl (hb hby d21_10) rfl (by decide) ?_
    show Steps p.tables e below (T2.setTop (mkF m 13 #[.val (.ref a1)] [])) _
    refine XS.iconst X2.here hx rfl (hb hby d21_13) ?_
    show Steps p.tables e below (T2.setTop (mkF m 14 #[.val (.ref a1)] [(.int (1 : Int32))])) _
    refine XS.goto X2.here hx rfl (pc0 := 14) (pc' := 18) rfl (hb hby d21_14) (by decide) (by decide) ?_
    show Steps p.tables e below (T2.setTop (mkF m 18 #[.val (.ref a1)] [(.int (1 : Int32))])) _
    exact retN X2 hx (t := .boolean) Bd.returns (by simp) (hb hby d21_18) hr
  · show Qil0 Z a1 G1 h0 n0 _ T2.heap _
    rw [e2]
    exact ⟨N0, rfl, rfl⟩
theorem d21_17 : decode jdk_42_method_154_code 17 = .ok (.iconst 0, 1) := by decide +kernel
theorem ef_il1 (m : MethodId) (a1 : Addr) : entryFrame m #[(.ref a1)] 1 = mkF m 0 #[.val (.ref a1)] [] := by first | (simp [entryFrame, mkF, argsToLocals, Value.category]; done) | rfl
def Qil1 (Z : State) (a1 : Addr) (G1 : Int32) (h0 : Heap) (n0 : Nat) (v : Option Value) (h : Heap) (L : List Loc) : Prop := Fr n0 L ∧ h = h0 ∧ (v = some (.int (0 : Int32)))
set_option maxRecDepth 65536 in
set_option maxHeartbeats 40000000 in
theorem rmIl1 (l : Launch) (Z : State) (a0 : Array Value) (hw : ∀ d ∈ tables_1, d.before a0 Z = true) (ws : List Jvm.Cond) (a1 : Addr) (G1 : Int32) (h0 : Heap) (n0 : Nat) (Z0 : n0 ≤ h0.size) (hS : Sta Z Z.heap "java/lang/String" "COMPACT_STRINGS" "Z" (.int G1)) (hG : ¬ (G1 = (0 : Int32))) (hO : Old Z n0 h0) (hF : Fld Z h0 a1 "java/lang/String" "coder" "B" (.int (1 : Int32))) :
    MetFree l (⟨"java/lang/String", "isLatin1", "()Z"⟩ : MethodName) (head1 (Jvm.Cond.code (⟨"java/lang/String", "isLatin1", "()Z"⟩ : MethodName) jdk_42_method_154_code 1 (some .boolean) :: ws) ({ frames := 0, cells := 0, slots := 0, locals := 0 } : Room)) (fun a U => a = #[(.ref a1)] ∧ Z.Warmed39 U.vm ∧ U.heap = h0) (fun _ _ _ _ _ => True) (fun _ U o U' => ∃ v L, o = .returned v ∧ Qil1 Z a1 G1 h0 n0 v U'.heap L ∧ FrameEnd U o U' L ({ frames := 0, cells := 0, slots := 0, locals := 0 } : Room).cells ({ frames := 0, cells := 0, slots := 0, locals := 0 } : Room).slots) := by
  refine MetFree.of_bodySF (plainFor_of_name own_pn_5) hisR ?_
  intro p e s m args below meth c s₁ Bd hml0 hP hK
  obtain ⟨rfl, hZ, hh⟩ := hP
  have hx := Bd.exec
  have hby := Bd.bytes
  have hml : c.maxLocals = 1 := hml0
  have hown : s.vm.findClass "java/lang/String" = some m.cls := findClass_of_methodNamed Bd.named
  have hnm := (name_of_methodNamed Bd.named Bd.method).1
  have X0 : Stand p l e ({ frames := 0, cells := 0, slots := 0, locals := 0 } : Room) s m #[(.ref a1)] below meth c s₁ [] 0 0 := Stand.of_body Bd
  have e0 : s₁.heap = h0 := by rw [← hh, Bd.state]; rfl
  have N0 := Fr.nil n0
  have pre0 : ∀ t, Steps p.tables e below (s₁.setTop (mkF m 0 #[.val (.ref a1)] [])) t → Steps p.tables e below (s₁.setTop (entryFrame m #[(.ref a1)] 1)) t := fun t k => castTop (ef_il1 m a1) k
  obtain ⟨T1, X1, e1, st1⟩ := getS2 X0 hx hZ hown (host := "") (Or.inl (own_k hw 19 rfl)) Via.refl e0 (hS.ext hO.2) (g := (mkF m 0 #[.val (.ref a1)] [])) rfl (hb hby d21_0)
  obtain ⟨T2, X2, e2, st2⟩ := getF X1 hx hZ hown (host := "") (Or.inl (own_k hw 31 rfl)) Via.refl e1 hF (g := (mkF m 7 #[.val (.ref a1)] [(.ref a1)])) rfl rfl (hb hby d21_7)
  obtain ⟨fs, hr, hrun, hended, hW, hsame⟩ := X2.leave (v := (some (.int (0 : Int32)))) (fun h => by rw [Bd.returns] at h; cases h)
  refine ⟨_, _, pre0 _ ?_, hrun, hended, _, _, rfl, ?_, ⟨_, rfl⟩, hW, hsame.mono (by decide) (by decide)⟩
  · show Steps p.tables e below (s₁.setTop (mkF m 0 #[.val (.ref a1)] [])) _
    refine st1 _ ?_
    show Steps p.tables e below (T1.setTop (mkF m 3 #[.val (.ref a1)] [(.int G1)])) _
    refine XS.ifNo X1.here hx rfl (hb hby d21_3) rfl ((if0 _ _).trans (feq hG).1) ?_
    show Steps p.tables e below (T1.setTop (mkF m 6 #[.val (.ref a1)] [])) _
    refine XS.aloadN X1.here hx rfl (hb hby d21_6) rfl rfl ?_
    show Steps p.tables e below (T1.setTop (mkF m 7 #[.val (.ref a1)] [(.ref a1)])) _
    refine st2 _ ?_
    show Steps p.tables e below (T2.setTop (mkF m 10 #[.val (.ref a1)] [(.int (1 : Int32))])) _
    refine XS.ifYes X2.here hx rfl (pc0 := 10) (pc' := 17) rfl (hb hby d21_10) rfl (by decide) (by decide) (by decide) ?_
    show Steps p.tables e below (T2.setTop (mkF m 17 #[.val (.ref a1)] [])) _
    refine XS.iconst X2.here hx rfl (hb hby d21_17) ?_
    show Steps p.tables e below (T2.setTop (mkF m 18 #[.val (.ref a1)] [(.int (0 : Int32))])) _
    exact retN X2 hx (t := .boolean) Bd.returns (by simp) (hb hby d21_18) hr
  · show Qil1 Z a1 G1 h0 n0 _ T2.heap _
    rw [e2]
    exact ⟨N0, rfl, rfl⟩
theorem d11_0 : decode jdk_42_method_54_code 0 = .ok (.aload_n 0, 1) := by decide +kernel
theorem d11_1 : decode jdk_42_method_54_code 1 = .ok (.getfield 9, 3) := by decide +kernel
theorem d11_4 : decode jdk_42_method_54_code 4 = .ok (.arraylength, 1) := by decide +kernel
theorem d11_5 : decode jdk_42_method_54_code 5 = .ok (.aload_n 0, 1) := by decide +kernel
theorem d11_6 : decode jdk_42_method_54_code 6 = .ok (.invokevirtual 335, 3) := by decide +kernel
theorem own_pd_14 : parseMethodDescriptor "()B" = some ⟨[], some .byte⟩ := by decide +kernel
theorem d11_9 : decode jdk_42_method_54_code 9 = .ok (.ishr, 1) := by decide +kernel
theorem d11_10 : decode jdk_42_method_54_code 10 = .ok (.ireturn, 1) := by decide +kernel
theorem ef_len (m : MethodId) (a1 : Addr) : entryFrame m #[(.ref a1)] 1 = mkF m 0 #[.val (.ref a1)] [] := by first | (simp [entryFrame, mkF, argsToLocals, Value.category]; done) | rfl
def Qlen (Z : State) (a1 : Addr) (cc1 : Int32) (tt1 : Addr) (k01 : ClassId) (ll1 : Int32) (vv1 : List Value) (n1 : Int32) (x1 : Int32) (y1 : Int32) (G1 : Int32) (h0 : Heap) (n0 : Nat) (v : Option Value) (h : Heap) (L : List Loc) : Prop := Fr n0 L ∧ h = h0 ∧ (v = some (.int n1))
set_option maxRecDepth 65536 in
set_option maxHeartbeats 40000000 in
theorem rmLen (l : Launch) (Z : State) (a0 : Array Value) (hw : ∀ d ∈ tables_1, d.before a0 Z = true) (ws : List Jvm.Cond) (a1 : Addr) (cc1 : Int32) (tt1 : Addr) (k01 : ClassId) (ll1 : Int32) (vv1 : List Value) (n1 : Int32) (x1 : Int32) (y1 : Int32) (G1 : Int32) (h0 : Heap) (n0 : Nat) (Z0 : n0 ≤ h0.size) (hS : Sta Z Z.heap "java/lang/String" "COMPACT_STRINGS" "Z" (.int G1)) (hG : ¬ (G1 = (0 : Int32))) (hO : Old Z n0 h0) (hE1 : Exa Z h0 a1 "java/lang/String") (hFc1 : Fld Z h0 a1 "java/lang/String" "coder" "B" (.int cc1)) (hFv1 : Fld Z h0 a1 "java/lang/String" "value" "[B" (.ref tt1)) (hVv1 : Arv Z h0 tt1 k01 .byte ll1 vv1 (.int (0 : Int32))) (hR1 : own_Rep n1 x1 y1 cc1 ll1 vv1) :
    MetFree l (⟨"java/lang/String", "length", "()I"⟩ : MethodName) (head1 (Jvm.Cond.code (⟨"java/lang/String", "length", "()I"⟩ : MethodName) jdk_42_method_54_code 1 (some .int) :: ws) ({ frames := 1, cells := 0, slots := 0, locals := 13 } : Room)) (fun a U => a = #[(.ref a1)] ∧ Z.Warmed39 U.vm ∧ U.heap = h0) (fun _ _ _ _ _ => True) (fun _ U o U' => ∃ v L, o = .returned v ∧ Qlen Z a1 cc1 tt1 k01 ll1 vv1 n1 x1 y1 G1 h0 n0 v U'.heap L ∧ FrameEnd U o U' L ({ frames := 1, cells := 0, slots := 0, locals := 13 } : Room).cells ({ frames := 1, cells := 0, slots := 0, locals := 13 } : Room).slots) := by
  refine MetFree.of_bodySF (plainFor_of_name own_pn_5) hisR ?_
  intro p e s m args below meth c s₁ Bd hml0 hP hK
  obtain ⟨rfl, hZ, hh⟩ := hP
  have hx := Bd.exec
  have hby := Bd.bytes
  have hml : c.maxLocals = 1 := hml0
  have hown : s.vm.findClass "java/lang/String" = some m.cls := findClass_of_methodNamed Bd.named
  have hnm := (name_of_methodNamed Bd.named Bd.method).1
  have X0 : Stand p l e ({ frames := 1, cells := 0, slots := 0, locals := 13 } : Room) s m #[(.ref a1)] below meth c s₁ [] 0 0 := Stand.of_body Bd
  have e0 : s₁.heap = h0 := by rw [← hh, Bd.state]; rfl
  have N0 := Fr.nil n0
  have pre0 : ∀ t, Steps p.tables e below (s₁.setTop (mkF m 0 #[.val (.ref a1)] [])) t → Steps p.tables e below (s₁.setTop (entryFrame m #[(.ref a1)] 1)) t := fun t k => castTop (ef_len m a1) k
  rcases hR1 with ⟨r1, r2, r3, r4⟩ | ⟨r1, r2, r3, r4, r5⟩ | ⟨r1, r2, r3, r4⟩ | ⟨r1, r2, r3, r4, r5, r6⟩ | ⟨r1, r2, r3, r4⟩
  · skip
    rw [r2] at hFc1
    rw [r3, r4] at hVv1
    obtain ⟨T1, X1, e1, st1⟩ := getF X0 hx hZ hown (host := "") (Or.inl (own_k hw 33 rfl)) Via.refl e0 hFv1 (g := (mkF m 1 #[.val (.ref a1)] [(.ref a1)])) rfl rfl (hb hby d11_1)
    obtain ⟨cl2, Ar2, -, S2, M2, -, -⟩ := id hVv1
    obtain ⟨cq3, kq3, q3a, q3b, q3c⟩ := isOf hZ e1 hE1
    obtain ⟨_, _, ⟨T3, L3, k3, n3⟩, -, X3, ⟨Lc3, hQ3, l3, y3, z3⟩, st3⟩ := X1.virtualBack hx (y := (⟨"java/lang/String", "coder", "()B"⟩ : MethodName)) (z := (⟨"java/lang/String", "coder", "()B"⟩ : MethodName)) hown (mvT hZ (own_k hw 54 rfl)) (mvT hZ (own_k hw 55 rfl)) (notFace_of_selects (args := #[]) (mvT hZ (own_k hw 57 rfl))) (mvT hZ (own_k hw 57 rfl)) (mvT hZ (own_k hw 56 rfl)) (by decide) (backOf (W := 1) (rmCo0 l Z a0 hw [] a1 G1 h0 n0 Z0 hS (hG) hO hFc1) hZ (own_k hw 58 rfl) (own_k hw 7 rfl) (by decide) (by decide)) q3a q3c (g := (mkF m 6 #[.val (.ref a1)] [(.ref a1), (.int (0 : Int32))])) rfl (by rw [hml]; rfl) (Steps.refl _) (argsL := []) (rest := [(.int (0 : Int32))]) (lenOf own_pd_14 rfl) rfl (by show 2 * 0 + _ ≤ _; exact Nat.le_of_eq rfl) (hb hby d11_6) (fun _ _ => ⟨rfl, e1, (by decide : 0 + 0 ≤ _), (by decide : 0 + 0 ≤ _)⟩)
    dsimp only [Pt.U, Pt.locs, Pt.cells, Pt.slots] at X3 l3 y3 z3 st3 hQ3
    subst l3
    subst y3 z3
    obtain ⟨Nq3, eh3, hv3⟩ := hQ3
    have N3 := Fr.app N0 Nq3
    subst hv3
    obtain ⟨fs, hr, hrun, hended, hW, hsame⟩ := X3.leave (v := (some (.int (0 : Int32)))) (fun h => by rw [Bd.returns] at h; cases h)
    refine ⟨_, _, pre0 _ ?_, hrun, hended, _, _, rfl, ?_, ⟨_, rfl⟩, hW, hsame.mono (by decide) (by decide)⟩
    · show Steps p.tables e below (s₁.setTop (mkF m 0 #[.val (.ref a1)] [])) _
      refine XS.aloadN X0.here hx rfl (hb hby d11_0) rfl rfl ?_
      show Steps p.tables e below (s₁.setTop (mkF m 1 #[.val (.ref a1)] [(.ref a1)])) _
      refine st1 _ ?_
      show Steps p.tables e below (T1.setTop (mkF m 4 #[.val (.ref a1)] [(.ref tt1)])) _
      refine X1.arraylength hx (by rw [e1]; exact Ar2.1) (State.isArrayOf_alike hZ.alike Ar2.2.1) (g := (mkF m 4 #[.val (.ref a1)] [(.ref tt1)])) rfl rfl (hb hby d11_4) _ ?_
      rw [len_of S2 M2]
      show Steps p.tables e below (T1.setTop (mkF m 5 #[.val (.ref a1)] [(.int (0 : Int32))])) _
      refine XS.aloadN X1.here hx rfl (hb hby d11_5) rfl rfl ?_
      show Steps p.tables e below (T1.setTop (mkF m 6 #[.val (.ref a1)] [(.ref a1), (.int (0 : Int32))])) _
      refine st3.trans ?_
      show Steps p.tables e below (T3.setTop (mkF m 9 #[.val (.ref a1)] [(.int (0 : Int32)), (.int (0 : Int32))])) _
      refine XS.ishr X3.here hx rfl (hb hby d11_9) rfl ?_
      show Steps p.tables e below (T3.setTop (mkF m 10 #[.val (.ref a1)] [(.int (0 : Int32))])) _
      exact retOut X3 hx Bd.returns rfl (Or.inl ⟨rfl, Or.inl rfl, _, rfl⟩) (hb hby d11_10) hr
    · show Qlen Z a1 cc1 tt1 k01 ll1 vv1 n1 x1 y1 G1 h0 n0 _ T3.heap _
      rw [eh3]
      exact ⟨N3, rfl, (by rw [r1])⟩
  · skip
    rw [r2] at hFc1
    rw [r3, r4] at hVv1
    obtain ⟨T4, X4, e4, st4⟩ := getF X0 hx hZ hown (host := "") (Or.inl (own_k hw 33 rfl)) Via.refl e0 hFv1 (g := (mkF m 1 #[.val (.ref a1)] [(.ref a1)])) rfl rfl (hb hby d11_1)
    obtain ⟨cl5, Ar5, -, S5, M5, -, -⟩ := id hVv1
    obtain ⟨cq6, kq6, q6a, q6b, q6c⟩ := isOf hZ e4 hE1
    obtain ⟨_, _, ⟨T6, L6, k6, n6⟩, -, X6, ⟨Lc6, hQ6, l6, y6, z6⟩, st6⟩ := X4.virtualBack hx (y := (⟨"java/lang/String", "coder", "()B"⟩ : MethodName)) (z := (⟨"java/lang/String", "coder", "()B"⟩ : MethodName)) hown (mvT hZ (own_k hw 54 rfl)) (mvT hZ (own_k hw 55 rfl)) (notFace_of_selects (args := #[]) (mvT hZ (own_k hw 57 rfl))) (mvT hZ (own_k hw 57 rfl)) (mvT hZ (own_k hw 56 rfl)) (by decide) (backOf (W := 1) (rmCo0 l Z a0 hw [] a1 G1 h0 n0 Z0 hS (hG) hO hFc1) hZ (own_k hw 58 rfl) (own_k hw 7 rfl) (by decide) (by decide)) q6a q6c (g := (mkF m 6 #[.val (.ref a1)] [(.ref a1), (.int (1 : Int32))])) rfl (by rw [hml]; rfl) (Steps.refl _) (argsL := []) (rest := [(.int (1 : Int32))]) (lenOf own_pd_14 rfl) rfl (by show 2 * 0 + _ ≤ _; exact Nat.le_of_eq rfl) (hb hby d11_6) (fun _ _ => ⟨rfl, e4, (by decide : 0 + 0 ≤ _), (by decide : 0 + 0 ≤ _)⟩)
    dsimp only [Pt.U, Pt.locs, Pt.cells, Pt.slots] at X6 l6 y6 z6 st6 hQ6
    subst l6
    subst y6 z6
    obtain ⟨Nq6, eh6, hv6⟩ := hQ6
    have N6 := Fr.app N0 Nq6
    subst hv6
    obtain ⟨fs, hr, hrun, hended, hW, hsame⟩ := X6.leave (v := (some (.int (1 : Int32)))) (fun h => by rw [Bd.returns] at h; cases h)
    refine ⟨_, _, pre0 _ ?_, hrun, hended, _, _, rfl, ?_, ⟨_, rfl⟩, hW, hsame.mono (by decide) (by decide)⟩
    · show Steps p.tables e below (s₁.setTop (mkF m 0 #[.val (.ref a1)] [])) _
      refine XS.aloadN X0.here hx rfl (hb hby d11_0) rfl rfl ?_
      show Steps p.tables e below (s₁.setTop (mkF m 1 #[.val (.ref a1)] [(.ref a1)])) _
      refine st4 _ ?_
      show Steps p.tables e below (T4.setTop (mkF m 4 #[.val (.ref a1)] [(.ref tt1)])) _
      refine X4.arraylength hx (by rw [e4]; exact Ar5.1) (State.isArrayOf_alike hZ.alike Ar5.2.1) (g := (mkF m 4 #[.val (.ref a1)] [(.ref tt1)])) rfl rfl (hb hby d11_4) _ ?_
      rw [len_of S5 M5]
      show Steps p.tables e below (T4.setTop (mkF m 5 #[.val (.ref a1)] [(.int (1 : Int32))])) _
      refine XS.aloadN X4.here hx rfl (hb hby d11_5) rfl rfl ?_
      show Steps p.tables e below (T4.setTop (mkF m 6 #[.val (.ref a1)] [(.ref a1), (.int (1 : Int32))])) _
      refine st6.trans ?_
      show Steps p.tables e below (T6.setTop (mkF m 9 #[.val (.ref a1)] [(.int (0 : Int32)), (.int (1 : Int32))])) _
      refine XS.ishr X6.here hx rfl (hb hby d11_9) rfl ?_
      show Steps p.tables e below (T6.setTop (mkF m 10 #[.val (.ref a1)] [(.int (1 : Int32))])) _
      exact retOut X6 hx Bd.returns rfl (Or.inl ⟨rfl, Or.inl rfl, _, rfl⟩) (hb hby d11_10) hr
    · show Qlen Z a1 cc1 tt1 k01 ll1 vv1 n1 x1 y1 G1 h0 n0 _ T6.heap _
      rw [eh6]
      exact ⟨N6, rfl, (by rw [r1])⟩
  · skip
    rw [r2] at hFc1
    rw [r3, r4] at hVv1
    obtain ⟨T7, X7, e7, st7⟩ := getF X0 hx hZ hown (host := "") (Or.inl (own_k hw 33 rfl)) Via.refl e0 hFv1 (g := (mkF m 1 #[.val (.ref a1)] [(.ref a1)])) rfl rfl (hb hby d11_1)
    obtain ⟨cl8, Ar8, -, S8, M8, -, -⟩ := id hVv1
    obtain ⟨cq9, kq9, q9a, q9b, q9c⟩ := isOf hZ e7 hE1
    obtain ⟨_, _, ⟨T9, L9, k9, n9⟩, -, X9, ⟨Lc9, hQ9, l9, y9, z9⟩, st9⟩ := X7.virtualBack hx (y := (⟨"java/lang/String", "coder", "()B"⟩ : MethodName)) (z := (⟨"java/lang/String", "coder", "()B"⟩ : MethodName)) hown (mvT hZ (own_k hw 54 rfl)) (mvT hZ (own_k hw 55 rfl)) (notFace_of_selects (args := #[]) (mvT hZ (own_k hw 57 rfl))) (mvT hZ (own_k hw 57 rfl)) (mvT hZ (own_k hw 56 rfl)) (by decide) (backOf (W := 1) (rmCo1 l Z a0 hw [] a1 G1 h0 n0 Z0 hS (hG) hO hFc1) hZ (own_k hw 58 rfl) (own_k hw 7 rfl) (by decide) (by decide)) q9a q9c (g := (mkF m 6 #[.val (.ref a1)] [(.ref a1), (.int (2 : Int32))])) rfl (by rw [hml]; rfl) (Steps.refl _) (argsL := []) (rest := [(.int (2 : Int32))]) (lenOf own_pd_14 rfl) rfl (by show 2 * 0 + _ ≤ _; exact Nat.le_of_eq rfl) (hb hby d11_6) (fun _ _ => ⟨rfl, e7, (by decide : 0 + 0 ≤ _), (by decide : 0 + 0 ≤ _)⟩)
    dsimp only [Pt.U, Pt.locs, Pt.cells, Pt.slots] at X9 l9 y9 z9 st9 hQ9
    subst l9
    subst y9 z9
    obtain ⟨Nq9, eh9, hv9⟩ := hQ9
    have N9 := Fr.app N0 Nq9
    subst hv9
    obtain ⟨fs, hr, hrun, hended, hW, hsame⟩ := X9.leave (v := (some (.int (1 : Int32)))) (fun h => by rw [Bd.returns] at h; cases h)
    refine ⟨_, _, pre0 _ ?_, hrun, hended, _, _, rfl, ?_, ⟨_, rfl⟩, hW, hsame.mono (by decide) (by decide)⟩
    · show Steps p.tables e below (s₁.setTop (mkF m 0 #[.val (.ref a1)] [])) _
      refine XS.aloadN X0.here hx rfl (hb hby d11_0) rfl rfl ?_
      show Steps p.tables e below (s₁.setTop (mkF m 1 #[.val (.ref a1)] [(.ref a1)])) _
      refine st7 _ ?_
      show Steps p.tables e below (T7.setTop (mkF m 4 #[.val (.ref a1)] [(.ref tt1)])) _
      refine X7.arraylength hx (by rw [e7]; exact Ar8.1) (State.isArrayOf_alike hZ.alike Ar8.2.1) (g := (mkF m 4 #[.val (.ref a1)] [(.ref tt1)])) rfl rfl (hb hby d11_4) _ ?_
      rw [len_of S8 M8]
      show Steps p.tables e below (T7.setTop (mkF m 5 #[.val (.ref a1)] [(.int (2 : Int32))])) _
      refine XS.aloadN X7.here hx rfl (hb hby d11_5) rfl rfl ?_
      show Steps p.tables e below (T7.setTop (mkF m 6 #[.val (.ref a1)] [(.ref a1), (.int (2 : Int32))])) _
      refine st9.trans ?_
      show Steps p.tables e below (T9.setTop (mkF m 9 #[.val (.ref a1)] [(.int (1 : Int32)), (.int (2 : Int32))])) _
      refine XS.ishr X9.here hx rfl (hb hby d11_9) rfl ?_
      show Steps p.tables e below (T9.setTop (mkF m 10 #[.val (.ref a1)] [(.int (1 : Int32))])) _
      exact retOut X9 hx Bd.returns rfl (Or.inl ⟨rfl, Or.inl rfl, _, rfl⟩) (hb hby d11_10) hr
    · show Qlen Z a1 cc1 tt1 k01 ll1 vv1 n1 x1 y1 G1 h0 n0 _ T9.heap _
      rw [eh9]
      exact ⟨N9, rfl, (by rw [r1])⟩
  · skip
    rw [r2] at hFc1
    rw [r3, r4] at hVv1
    obtain ⟨T10, X10, e10, st10⟩ := getF X0 hx hZ hown (host := "") (Or.inl (own_k hw 33 rfl)) Via.refl e0 hFv1 (g := (mkF m 1 #[.val (.ref a1)] [(.ref a1)])) rfl rfl (hb hby d11_1)
    obtain ⟨cl11, Ar11, -, S11, M11, -, -⟩ := id hVv1
    obtain ⟨cq12, kq12, q12a, q12b, q12c⟩ := isOf hZ e10 hE1
    obtain ⟨_, _, ⟨T12, L12, k12, n12⟩, -, X12, ⟨Lc12, hQ12, l12, y12, z12⟩, st12⟩ := X10.virtualBack hx (y := (⟨"java/lang/String", "coder", "()B"⟩ : MethodName)) (z := (⟨"java/lang/String", "coder", "()B"⟩ : MethodName)) hown (mvT hZ (own_k hw 54 rfl)) (mvT hZ (own_k hw 55 rfl)) (notFace_of_selects (args := #[]) (mvT hZ (own_k hw 57 rfl))) (mvT hZ (own_k hw 57 rfl)) (mvT hZ (own_k hw 56 rfl)) (by decide) (backOf (W := 1) (rmCo0 l Z a0 hw [] a1 G1 h0 n0 Z0 hS (hG) hO hFc1) hZ (own_k hw 58 rfl) (own_k hw 7 rfl) (by decide) (by decide)) q12a q12c (g := (mkF m 6 #[.val (.ref a1)] [(.ref a1), (.int (2 : Int32))])) rfl (by rw [hml]; rfl) (Steps.refl _) (argsL := []) (rest := [(.int (2 : Int32))]) (lenOf own_pd_14 rfl) rfl (by show 2 * 0 + _ ≤ _; exact Nat.le_of_eq rfl) (hb hby d11_6) (fun _ _ => ⟨rfl, e10, (by decide : 0 + 0 ≤ _), (by decide : 0 + 0 ≤ _)⟩)
    dsimp only [Pt.U, Pt.locs, Pt.cells, Pt.slots] at X12 l12 y12 z12 st12 hQ12
    subst l12
    subst y12 z12
    obtain ⟨Nq12, eh12, hv12⟩ := hQ12
    have N12 := Fr.app N0 Nq12
    subst hv12
    obtain ⟨fs, hr, hrun, hended, hW, hsame⟩ := X12.leave (v := (some (.int (2 : Int32)))) (fun h => by rw [Bd.returns] at h; cases h)
    refine ⟨_, _, pre0 _ ?_, hrun, hended, _, _, rfl, ?_, ⟨_, rfl⟩, hW, hsame.mono (by decide) (by decide)⟩
    · show Steps p.tables e below (s₁.setTop (mkF m 0 #[.val (.ref a1)] [])) _
      refine XS.aloadN X0.here hx rfl (hb hby d11_0) rfl rfl ?_
      show Steps p.tables e below (s₁.setTop (mkF m 1 #[.val (.ref a1)] [(.ref a1)])) _
      refine st10 _ ?_
      show Steps p.tables e below (T10.setTop (mkF m 4 #[.val (.ref a1)] [(.ref tt1)])) _
      refine X10.arraylength hx (by rw [e10]; exact Ar11.1) (State.isArrayOf_alike hZ.alike Ar11.2.1) (g := (mkF m 4 #[.val (.ref a1)] [(.ref tt1)])) rfl rfl (hb hby d11_4) _ ?_
      rw [len_of S11 M11]
      show Steps p.tables e below (T10.setTop (mkF m 5 #[.val (.ref a1)] [(.int (2 : Int32))])) _
      refine XS.aloadN X10.here hx rfl (hb hby d11_5) rfl rfl ?_
      show Steps p.tables e below (T10.setTop (mkF m 6 #[.val (.ref a1)] [(.ref a1), (.int (2 : Int32))])) _
      refine st12.trans ?_
      show Steps p.tables e below (T12.setTop (mkF m 9 #[.val (.ref a1)] [(.int (0 : Int32)), (.int (2 : Int32))])) _
      refine XS.ishr X12.here hx rfl (hb hby d11_9) rfl ?_
      show Steps p.tables e below (T12.setTop (mkF m 10 #[.val (.ref a1)] [(.int (2 : Int32))])) _
      exact retOut X12 hx Bd.returns rfl (Or.inl ⟨rfl, Or.inl rfl, _, rfl⟩) (hb hby d11_10) hr
    · show Qlen Z a1 cc1 tt1 k01 ll1 vv1 n1 x1 y1 G1 h0 n0 _ T12.heap _
      rw [eh12]
      exact ⟨N12, rfl, (by rw [r1])⟩
  · skip
    rw [r2] at hFc1
    rw [r3, r4] at hVv1
    obtain ⟨T13, X13, e13, st13⟩ := getF X0 hx hZ hown (host := "") (Or.inl (own_k hw 33 rfl)) Via.refl e0 hFv1 (g := (mkF m 1 #[.val (.ref a1)] [(.ref a1)])) rfl rfl (hb hby d11_1)
    obtain ⟨cl14, Ar14, -, S14, M14, -, -⟩ := id hVv1
    obtain ⟨cq15, kq15, q15a, q15b, q15c⟩ := isOf hZ e13 hE1
    obtain ⟨_, _, ⟨T15, L15, k15, n15⟩, -, X15, ⟨Lc15, hQ15, l15, y15, z15⟩, st15⟩ := X13.virtualBack hx (y := (⟨"java/lang/String", "coder", "()B"⟩ : MethodName)) (z := (⟨"java/lang/String", "coder", "()B"⟩ : MethodName)) hown (mvT hZ (own_k hw 54 rfl)) (mvT hZ (own_k hw 55 rfl)) (notFace_of_selects (args := #[]) (mvT hZ (own_k hw 57 rfl))) (mvT hZ (own_k hw 57 rfl)) (mvT hZ (own_k hw 56 rfl)) (by decide) (backOf (W := 1) (rmCo1 l Z a0 hw [] a1 G1 h0 n0 Z0 hS (hG) hO hFc1) hZ (own_k hw 58 rfl) (own_k hw 7 rfl) (by decide) (by decide)) q15a q15c (g := (mkF m 6 #[.val (.ref a1)] [(.ref a1), (.int (4 : Int32))])) rfl (by rw [hml]; rfl) (Steps.refl _) (argsL := []) (rest := [(.int (4 : Int32))]) (lenOf own_pd_14 rfl) rfl (by show 2 * 0 + _ ≤ _; exact Nat.le_of_eq rfl) (hb hby d11_6) (fun _ _ => ⟨rfl, e13, (by decide : 0 + 0 ≤ _), (by decide : 0 + 0 ≤ _)⟩)
    dsimp only [Pt.U, Pt.locs, Pt.cells, Pt.slots] at X15 l15 y15 z15 st15 hQ15
    subst l15
    subst y15 z15
    obtain ⟨Nq15, eh15, hv15⟩ := hQ15
    have N15 := Fr.app N0 Nq15
    subst hv15
    obtain ⟨fs, hr, hrun, hended, hW, hsame⟩ := X15.leave (v := (some (.int (2 : Int32)))) (fun h => by rw [Bd.returns] at h; cases h)
    refine ⟨_, _, pre0 _ ?_, hrun, hended, _, _, rfl, ?_, ⟨_, rfl⟩, hW, hsame.mono (by decide) (by decide)⟩
    · show Steps p.tables e below (s₁.setTop (mkF m 0 #[.val (.ref a1)] [])) _
      refine XS.aloadN X0.here hx rfl (hb hby d11_0) rfl rfl ?_
      show Steps p.tables e below (s₁.setTop (mkF m 1 #[.val (.ref a1)] [(.ref a1)])) _
      refine st13 _ ?_
      show Steps p.tables e below (T13.setTop (mkF m 4 #[.val (.ref a1)] [(.ref tt1)])) _
      refine X13.arraylength hx (by rw [e13]; exact Ar14.1) (State.isArrayOf_alike hZ.alike Ar14.2.1) (g := (mkF m 4 #[.val (.ref a1)] [(.ref tt1)])) rfl rfl (hb hby d11_4) _ ?_
      rw [len_of S14 M14]
      show Steps p.tables e below (T13.setTop (mkF m 5 #[.val (.ref a1)] [(.int (4 : Int32))])) _
      refine XS.aloadN X13.here hx rfl (hb hby d11_5) rfl rfl ?_
      show Steps p.tables e below (T13.setTop (mkF m 6 #[.val (.ref a1)] [(.ref a1), (.int (4 : Int32))])) _
      refine st15.trans ?_
      show Steps p.tables e below (T15.setTop (mkF m 9 #[.val (.ref a1)] [(.int (1 : Int32)), (.int (4 : Int32))])) _
      refine XS.ishr X15.here hx rfl (hb hby d11_9) rfl ?_
      show Steps p.tables e below (T15.setTop (mkF m 10 #[.val (.ref a1)] [(.int (2 : Int32))])) _
      exact retOut X15 hx Bd.returns rfl (Or.inl ⟨rfl, Or.inl rfl, _, rfl⟩) (hb hby d11_10) hr
    · show Qlen Z a1 cc1 tt1 k01 ll1 vv1 n1 x1 y1 G1 h0 n0 _ T15.heap _
      rw [eh15]
      exact ⟨N15, rfl, (by rw [r1])⟩
theorem d20_0 : decode jdk_42_method_56_code 0 = .ok (.aload_n 0, 1) := by decide +kernel
theorem d20_1 : decode jdk_42_method_56_code 1 = .ok (.invokevirtual 492, 3) := by decide +kernel
theorem own_pd_15 : parseMethodDescriptor "()Z" = some ⟨[], some .boolean⟩ := by decide +kernel
theorem d20_4 : decode jdk_42_method_56_code 4 = .ok (.ifCond .eq 12, 3) := by decide +kernel
theorem d20_7 : decode jdk_42_method_56_code 7 = .ok (.aload_n 0, 1) := by decide +kernel
theorem d20_8 : decode jdk_42_method_56_code 8 = .ok (.getfield 9, 3) := by decide +kernel
theorem d20_11 : decode jdk_42_method_56_code 11 = .ok (.iload_n 1, 1) := by decide +kernel
theorem d20_12 : decode jdk_42_method_56_code 12 = .ok (.invokestatic 495, 3) := by decide +kernel
theorem d20_15 : decode jdk_42_method_56_code 15 = .ok (.ireturn, 1) := by decide +kernel
theorem d20_16 : decode jdk_42_method_56_code 16 = .ok (.aload_n 0, 1) := by decide +kernel
theorem d20_17 : decode jdk_42_method_56_code 17 = .ok (.getfield 9, 3) := by decide +kernel
theorem d20_20 : decode jdk_42_method_56_code 20 = .ok (.iload_n 1, 1) := by decide +kernel
theorem d20_21 : decode jdk_42_method_56_code 21 = .ok (.invokestatic 498, 3) := by decide +kernel
theorem d20_24 : decode jdk_42_method_56_code 24 = .ok (.ireturn, 1) := by decide +kernel
theorem ef_ca0 (m : MethodId) (a1 : Addr) : entryFrame m #[(.ref a1), (.int (0 : Int32))] 2 = mkF m 0 #[.val (.ref a1), .val (.int (0 : Int32))] [] := by first | (simp [entryFrame, mkF, argsToLocals, Value.category]; done) | rfl
def Qca0 (Z : State) (a1 : Addr) (cc1 : Int32) (tt1 : Addr) (k01 : ClassId) (ll1 : Int32) (vv1 : List Value) (n1 : Int32) (x1 : Int32) (y1 : Int32) (G1 : Int32) (fv : Value) (h0 : Heap) (n0 : Nat) (v : Option Value) (h : Heap) (L : List Loc) : Prop := Fr n0 L ∧ h = h0 ∧ (v = some (.int x1))
set_option maxRecDepth 65536 in
set_option maxHeartbeats 40000000 in
theorem rmCa0 (l : Launch) (Z : State) (a0 : Array Value) (hw : ∀ d ∈ tables_1, d.before a0 Z = true) (ws : List Jvm.Cond) (a1 : Addr) (cc1 : Int32) (tt1 : Addr) (k01 : ClassId) (ll1 : Int32) (vv1 : List Value) (n1 : Int32) (x1 : Int32) (y1 : Int32) (G1 : Int32) (fv : Value) (h0 : Heap) (n0 : Nat) (Z0 : n0 ≤ h0.size) (hS : Sta Z Z.heap "java/lang/String" "COMPACT_STRINGS" "Z" (.int G1)) (hG : ¬ (G1 = (0 : Int32))) (hSa : Sta Z Z.heap "java/lang/StringUTF16" "$assertionsDisabled" "Z" (.int (1 : Int32))) (hSh : Sta Z Z.heap "java/lang/StringUTF16" "HI_BYTE_SHIFT" "I" (.int (0 : Int32))) (hSl : Sta Z Z.heap "java/lang/StringUTF16" "LO_BYTE_SHIFT" "I" (.int (8 : Int32))) (hSf : Sta Z Z.heap "jdk/internal/util/Preconditions" "SIOOBE_FORMATTER" "Ljava/util/function/BiFunction;" fv) (hfr : fv.isRef = true) (hO : Old Z n0 h0) (hE1 : Exa Z h0 a1 "java/lang/String") (hFc1 : Fld Z h0 a1 "java/lang/String" "coder" "B" (.int cc1)) (hFv1 : Fld Z h0 a1 "java/lang/String" "value" "[B" (.ref tt1)) (hVv1 : Arv Z h0 tt1 k01 .byte ll1 vv1 (.int (0 : Int32))) (hR1 : own_Rep n1 x1 y1 cc1 ll1 vv1) (hn : ¬ (n1 = (0 : Int32))) (hH : own_H x1) :
    MetFree l (⟨"java/lang/String", "charAt", "(I)C"⟩ : MethodName) (head1 (Jvm.Cond.code (⟨"java/lang/String", "charAt", "(I)C"⟩ : MethodName) jdk_42_method_56_code 2 (some .char) :: ws) ({ frames := 4, cells := 0, slots := 0, locals := 53 } : Room)) (fun a U => a = #[(.ref a1), (.int (0 : Int32))] ∧ Z.Warmed39 U.vm ∧ U.heap = h0) (fun _ _ _ _ _ => True) (fun _ U o U' => ∃ v L, o = .returned v ∧ Qca0 Z a1 cc1 tt1 k01 ll1 vv1 n1 x1 y1 G1 fv h0 n0 v U'.heap L ∧ FrameEnd U o U' L ({ frames := 4, cells := 0, slots := 0, locals := 53 } : Room).cells ({ frames := 4, cells := 0, slots := 0, locals := 53 } : Room).slots) := by
  refine MetFree.of_bodySF (plainFor_of_name own_pn_5) hisR ?_
  intro p e s m args below meth c s₁ Bd hml0 hP hK
  obtain ⟨rfl, hZ, hh⟩ := hP
  have hx := Bd.exec
  have hby := Bd.bytes
  have hml : c.maxLocals = 2 := hml0
  have hown : s.vm.findClass "java/lang/String" = some m.cls := findClass_of_methodNamed Bd.named
  have hnm := (name_of_methodNamed Bd.named Bd.method).1
  have X0 : Stand p l e ({ frames := 4, cells := 0, slots := 0, locals := 53 } : Room) s m #[(.ref a1), (.int (0 : Int32))] below meth c s₁ [] 0 0 := Stand.of_body Bd
  have e0 : s₁.heap = h0 := by rw [← hh, Bd.state]; rfl
  have N0 := Fr.nil n0
  have pre0 : ∀ t, Steps p.tables e below (s₁.setTop (mkF m 0 #[.val (.ref a1), .val (.int (0 : Int32))] [])) t → Steps p.tables e below (s₁.setTop (entryFrame m #[(.ref a1), (.int (0 : Int32))] 2)) t := fun t k => castTop (ef_ca0 m a1) k
  rcases hR1 with ⟨r1, r2, r3, r4⟩ | ⟨r1, r2, r3, r4, r5⟩ | ⟨r1, r2, r3, r4⟩ | ⟨r1, r2, r3, r4, r5, r6⟩ | ⟨r1, r2, r3, r4⟩
  · skip
    exact absurd r1 hn
  · skip
    rw [r2] at hFc1
    rw [r3, r4] at hVv1
    obtain ⟨cq1, kq1, q1a, q1b, q1c⟩ := isOf hZ e0 hE1
    obtain ⟨_, _, ⟨T1, L1, k1, n1⟩, -, X1, ⟨Lc1, hQ1, l1, y1, z1⟩, st1⟩ := X0.virtualBack hx (y := (⟨"java/lang/String", "isLatin1", "()Z"⟩ : MethodName)) (z := (⟨"java/lang/String", "isLatin1", "()Z"⟩ : MethodName)) hown (mvT hZ (own_k hw 92 rfl)) (mvT hZ (own_k hw 93 rfl)) (notFace_of_selects (args := #[]) (mvT hZ (own_k hw 95 rfl))) (mvT hZ (own_k hw 95 rfl)) (mvT hZ (own_k hw 94 rfl)) (by decide) (backOf (W := 0) (rmIl0 l Z a0 hw [] a1 G1 h0 n0 Z0 hS (hG) hO hFc1) hZ (own_k hw 96 rfl) (own_k hw 7 rfl) (by decide) (by decide)) q1a q1c (g := (mkF m 1 #[.val (.ref a1), .val (.int (0 : Int32))] [(.ref a1)])) rfl (by rw [hml]; rfl) (Steps.refl _) (argsL := []) (rest := []) (lenOf own_pd_15 rfl) rfl (by show 2 * 0 + _ ≤ _; exact Nat.le_of_eq rfl) (hb hby d20_1) (fun _ _ => ⟨rfl, e0, (by decide : 0 + 0 ≤ _), (by decide : 0 + 0 ≤ _)⟩)
    dsimp only [Pt.U, Pt.locs, Pt.cells, Pt.slots] at X1 l1 y1 z1 st1 hQ1
    subst l1
    subst y1 z1
    obtain ⟨Nq1, eh1, hv1⟩ := hQ1
    have N1 := Fr.app N0 Nq1
    subst hv1
    obtain ⟨T2, X2, e2, st2⟩ := getF X1 hx hZ hown (host := "") (Or.inl (own_k hw 33 rfl)) Via.refl eh1 hFv1 (g := (mkF m 8 #[.val (.ref a1), .val (.int (0 : Int32))] [(.ref a1)])) rfl rfl (hb hby d20_8)
    obtain ⟨_, _, ⟨T3, L3, k3, n3⟩, -, X3, ⟨Lc3, hQ3, l3, y3, z3⟩, st3⟩ := Jvm.LawKit.callS X2 hx (y := (⟨"java/lang/StringLatin1", "charAt", "([BI)C"⟩ : MethodName)) hown (mvT hZ (own_k hw 122 rfl)) (mvT hZ (own_k hw 123 rfl)) (mvT hZ (own_k hw 124 rfl)) (mvT hZ (own_k hw 125 rfl)) (by decide) (backOf (W := 0) (rmLa10 l Z a0 hw [] tt1 k01 ((x1.toInt8.toInt32).toInt8.toInt32) x1 fv h0 n0 Z0 hSf (hfr) hO hVv1 ((own_dec8 hH r5))) hZ (own_k hw 125 rfl) (own_k hw 124 rfl) (by decide) (by decide)) (g := (mkF m 12 #[.val (.ref a1), .val (.int (0 : Int32))] [(.int (0 : Int32)), (.ref tt1)])) rfl (by rw [hml]; rfl) (argsL := [(.ref tt1), (.int (0 : Int32))]) (rest := []) (lenOf own_pd_5 rfl) rfl (by show 2 * 0 + _ ≤ _; exact Nat.le_of_eq rfl) (hb hby d20_12) (fun _ _ => ⟨rfl, e2, (by decide : 0 + 0 ≤ _), (by decide : 0 + 0 ≤ _)⟩)
    dsimp only [Pt.U, Pt.locs, Pt.cells, Pt.slots] at X3 l3 y3 z3 st3 hQ3
    subst l3
    subst y3 z3
    obtain ⟨Nq3, eh3, hv3⟩ := hQ3
    have N3 := Fr.app N1 Nq3
    subst hv3
    obtain ⟨fs, hr, hrun, hended, hW, hsame⟩ := X3.leave (v := (some (.int (nar .char x1)))) (fun h => by rw [Bd.returns] at h; cases h)
    refine ⟨_, _, pre0 _ ?_, hrun, hended, _, _, rfl, ?_, ⟨_, rfl⟩, hW, hsame.mono (by decide) (by decide)⟩
    · show Steps p.tables e below (s₁.setTop (mkF m 0 #[.val (.ref a1), .val (.int (0 : Int32))] [])) _
      refine XS.aloadN X0.here hx rfl (hb hby d20_0) rfl rfl ?_
      show Steps p.tables e below (s₁.setTop (mkF m 1 #[.val (.ref a1), .val (.int (0 : Int32))] [(.ref a1)])) _
      refine st1.trans ?_
      show Steps p.tables e below (T1.setTop (mkF m 4 #[.val (.ref a1), .val (.int (0 : Int32))] [(.int (1 : Int32))])) _
      refine XS.ifNo X1.here hx rfl (hb hby d20_4) rfl (by decide) ?_
      show Steps p.tables e below (T1.setTop (mkF m 7 #[.val (.ref a1), .val (.int (0 : Int32))] [])) _
      refine XS.aloadN X1.here hx rfl (hb hby d20_7) rfl rfl ?_
      show Steps p.tables e below (T1.setTop (mkF m 8 #[.val (.ref a1), .val (.int (0 : Int32))] [(.ref a1)])) _
      refine st2 _ ?_
      show Steps p.tables e below (T2.setTop (mkF m 11 #[.val (.ref a1), .val (.int (0 : Int32))] [(.ref tt1)])) _
      refine XS.iloadN X2.here hx rfl (hb hby d20_11) rfl ?_
      show Steps p.tables e below (T2.setTop (mkF m 12 #[.val (.ref a1), .val (.int (0 : Int32))] [(.int (0 : Int32)), (.ref tt1)])) _
      refine st3 _ ?_
      show Steps p.tables e below (T3.setTop (mkF m 15 #[.val (.ref a1), .val (.int (0 : Int32))] [(.int x1)])) _
      exact retN X3 hx (t := .char) Bd.returns (by simp) (hb hby d20_15) hr
    · show Qca0 Z a1 cc1 tt1 k01 ll1 vv1 n1 x1 y1 G1 fv h0 n0 _ T3.heap _
      rw [eh3]
      exact ⟨N3, rfl, (congrArg (fun z => some (Value.int z)) (own_narE hH))⟩
  · skip
    rw [r2] at hFc1
    rw [r3, r4] at hVv1
    obtain ⟨cq4, kq4, q4a, q4b, q4c⟩ := isOf hZ e0 hE1
    obtain ⟨_, _, ⟨T4, L4, k4, n4⟩, -, X4, ⟨Lc4, hQ4, l4, y4, z4⟩, st4⟩ := X0.virtualBack hx (y := (⟨"java/lang/String", "isLatin1", "()Z"⟩ : MethodName)) (z := (⟨"java/lang/String", "isLatin1", "()Z"⟩ : MethodName)) hown (mvT hZ (own_k hw 92 rfl)) (mvT hZ (own_k hw 93 rfl)) (notFace_of_selects (args := #[]) (mvT hZ (own_k hw 95 rfl))) (mvT hZ (own_k hw 95 rfl)) (mvT hZ (own_k hw 94 rfl)) (by decide) (backOf (W := 0) (rmIl1 l Z a0 hw [] a1 G1 h0 n0 Z0 hS (hG) hO hFc1) hZ (own_k hw 96 rfl) (own_k hw 7 rfl) (by decide) (by decide)) q4a q4c (g := (mkF m 1 #[.val (.ref a1), .val (.int (0 : Int32))] [(.ref a1)])) rfl (by rw [hml]; rfl) (Steps.refl _) (argsL := []) (rest := []) (lenOf own_pd_15 rfl) rfl (by show 2 * 0 + _ ≤ _; exact Nat.le_of_eq rfl) (hb hby d20_1) (fun _ _ => ⟨rfl, e0, (by decide : 0 + 0 ≤ _), (by decide : 0 + 0 ≤ _)⟩)
    dsimp only [Pt.U, Pt.locs, Pt.cells, Pt.slots] at X4 l4 y4 z4 st4 hQ4
    subst l4
    subst y4 z4
    obtain ⟨Nq4, eh4, hv4⟩ := hQ4
    have N4 := Fr.app N0 Nq4
    subst hv4
    obtain ⟨T5, X5, e5, st5⟩ := getF X4 hx hZ hown (host := "") (Or.inl (own_k hw 33 rfl)) Via.refl eh4 hFv1 (g := (mkF m 17 #[.val (.ref a1), .val (.int (0 : Int32))] [(.ref a1)])) rfl rfl (hb hby d20_17)
    obtain ⟨_, _, ⟨T6, L6, k6, n6⟩, -, X6, ⟨Lc6, hQ6, l6, y6, z6⟩, st6⟩ := Jvm.LawKit.callS X5 hx (y := (⟨"java/lang/StringUTF16", "charAt", "([BI)C"⟩ : MethodName)) hown (mvT hZ (own_k hw 97 rfl)) (mvT hZ (own_k hw 98 rfl)) (mvT hZ (own_k hw 22 rfl)) (mvT hZ (own_k hw 99 rfl)) (by decide) (backOf (W := 0) (rmUa20 l Z a0 hw [] tt1 k01 (((x1 >>> ((0 : Int32) &&& 31)).toInt8.toInt32).toInt8.toInt32) (((x1 >>> ((8 : Int32) &&& 31)).toInt8.toInt32).toInt8.toInt32) x1 fv h0 n0 Z0 hSa hSh hSl hSf (hfr) hO hVv1 (hH) ((own_dec16 hH))) hZ (own_k hw 99 rfl) (own_k hw 22 rfl) (by decide) (by decide)) (g := (mkF m 21 #[.val (.ref a1), .val (.int (0 : Int32))] [(.int (0 : Int32)), (.ref tt1)])) rfl (by rw [hml]; rfl) (argsL := [(.ref tt1), (.int (0 : Int32))]) (rest := []) (lenOf own_pd_5 rfl) rfl (by show 2 * 0 + _ ≤ _; exact Nat.le_of_eq rfl) (hb hby d20_21) (fun _ _ => ⟨rfl, e5, (by decide : 0 + 0 ≤ _), (by decide : 0 + 0 ≤ _)⟩)
    dsimp only [Pt.U, Pt.locs, Pt.cells, Pt.slots] at X6 l6 y6 z6 st6 hQ6
    subst l6
    subst y6 z6
    obtain ⟨Nq6, eh6, hv6⟩ := hQ6
    have N6 := Fr.app N4 Nq6
    subst hv6
    obtain ⟨fs, hr, hrun, hended, hW, hsame⟩ := X6.leave (v := (some (.int (nar .char x1)))) (fun h => by rw [Bd.returns] at h; cases h)
    refine ⟨_, _, pre0 _ ?_, hrun, hended, _, _, rfl, ?_, ⟨_, rfl⟩, hW, hsame.mono (by decide) (by decide)⟩
    · show Steps p.tables e below (s₁.setTop (mkF m 0 #[.val (.ref a1), .val (.int (0 : Int32))] [])) _
      refine XS.aloadN X0.here hx rfl (hb hby d20_0) rfl rfl ?_
      show Steps p.tables e below (s₁.setTop (mkF m 1 #[.val (.ref a1), .val (.int (0 : Int32))] [(.ref a1)])) _
      refine st4.trans ?_
      show Steps p.tables e below (T4.setTop (mkF m 4 #[.val (.ref a1), .val (.int (0 : Int32))] [(.int (0 : Int32))])) _
      refine XS.ifYes X4.here hx rfl (pc0 := 4) (pc' := 16) rfl (hb hby d20_4) rfl (by decide) (by decide) (by decide) ?_
      show Steps p.tables e below (T4.setTop (mkF m 16 #[.val (.ref a1), .val (.int (0 : Int32))] [])) _
      refine XS.aloadN X4.here hx rfl (hb hby d20_16) rfl rfl ?_
      show Steps p.tables e below (T4.setTop (mkF m 17 #[.val (.ref a1), .val (.int (0 : Int32))] [(.ref a1)])) _
      refine st5 _ ?_
      show Steps p.tables e below (T5.setTop (mkF m 20 #[.val (.ref a1), .val (.int (0 : Int32))] [(.ref tt1)])) _
      refine XS.iloadN X5.here hx rfl (hb hby d20_20) rfl ?_
      show Steps p.tables e below (T5.setTop (mkF m 21 #[.val (.ref a1), .val (.int (0 : Int32))] [(.int (0 : Int32)), (.ref tt1)])) _
      refine st6 _ ?_
      show Steps p.tables e below (T6.setTop (mkF m 24 #[.val (.ref a1), .val (.int (0 : Int32))] [(.int x1)])) _
      exact retN X6 hx (t := .char) Bd.returns (by simp) (hb hby d20_24) hr
    · show Qca0 Z a1 cc1 tt1 k01 ll1 vv1 n1 x1 y1 G1 fv h0 n0 _ T6.heap _
      rw [eh6]
      exact ⟨N6, rfl, (congrArg (fun z => some (Value.int z)) (own_narE hH))⟩
  · skip
    rw [r2] at hFc1
    rw [r3, r4] at hVv1
    obtain ⟨cq7, kq7, q7a, q7b, q7c⟩ := isOf hZ e0 hE1
    obtain ⟨_, _, ⟨T7, L7, k7, n7⟩, -, X7, ⟨Lc7, hQ7, l7, y7, z7⟩, st7⟩ := X0.virtualBack hx (y := (⟨"java/lang/String", "isLatin1", "()Z"⟩ : MethodName)) (z := (⟨"java/lang/String", "isLatin1", "()Z"⟩ : MethodName)) hown (mvT hZ (own_k hw 92 rfl)) (mvT hZ (own_k hw 93 rfl)) (notFace_of_selects (args := #[]) (mvT hZ (own_k hw 95 rfl))) (mvT hZ (own_k hw 95 rfl)) (mvT hZ (own_k hw 94 rfl)) (by decide) (backOf (W := 0) (rmIl0 l Z a0 hw [] a1 G1 h0 n0 Z0 hS (hG) hO hFc1) hZ (own_k hw 96 rfl) (own_k hw 7 rfl) (by decide) (by decide)) q7a q7c (g := (mkF m 1 #[.val (.ref a1), .val (.int (0 : Int32))] [(.ref a1)])) rfl (by rw [hml]; rfl) (Steps.refl _) (argsL := []) (rest := []) (lenOf own_pd_15 rfl) rfl (by show 2 * 0 + _ ≤ _; exact Nat.le_of_eq rfl) (hb hby d20_1) (fun _ _ => ⟨rfl, e0, (by decide : 0 + 0 ≤ _), (by decide : 0 + 0 ≤ _)⟩)
    dsimp only [Pt.U, Pt.locs, Pt.cells, Pt.slots] at X7 l7 y7 z7 st7 hQ7
    subst l7
    subst y7 z7
    obtain ⟨Nq7, eh7, hv7⟩ := hQ7
    have N7 := Fr.app N0 Nq7
    subst hv7
    obtain ⟨T8, X8, e8, st8⟩ := getF X7 hx hZ hown (host := "") (Or.inl (own_k hw 33 rfl)) Via.refl eh7 hFv1 (g := (mkF m 8 #[.val (.ref a1), .val (.int (0 : Int32))] [(.ref a1)])) rfl rfl (hb hby d20_8)
    obtain ⟨_, _, ⟨T9, L9, k9, n9⟩, -, X9, ⟨Lc9, hQ9, l9, y9, z9⟩, st9⟩ := Jvm.LawKit.callS X8 hx (y := (⟨"java/lang/StringLatin1", "charAt", "([BI)C"⟩ : MethodName)) hown (mvT hZ (own_k hw 122 rfl)) (mvT hZ (own_k hw 123 rfl)) (mvT hZ (own_k hw 124 rfl)) (mvT hZ (own_k hw 125 rfl)) (by decide) (backOf (W := 0) (rmLa20 l Z a0 hw [] tt1 k01 ((x1.toInt8.toInt32).toInt8.toInt32) ((y1.toInt8.toInt32).toInt8.toInt32) x1 fv h0 n0 Z0 hSf (hfr) hO hVv1 ((own_dec8 hH r5))) hZ (own_k hw 125 rfl) (own_k hw 124 rfl) (by decide) (by decide)) (g := (mkF m 12 #[.val (.ref a1), .val (.int (0 : Int32))] [(.int (0 : Int32)), (.ref tt1)])) rfl (by rw [hml]; rfl) (argsL := [(.ref tt1), (.int (0 : Int32))]) (rest := []) (lenOf own_pd_5 rfl) rfl (by show 2 * 0 + _ ≤ _; exact Nat.le_of_eq rfl) (hb hby d20_12) (fun _ _ => ⟨rfl, e8, (by decide : 0 + 0 ≤ _), (by decide : 0 + 0 ≤ _)⟩)
    dsimp only [Pt.U, Pt.locs, Pt.cells, Pt.slots] at X9 l9 y9 z9 st9 hQ9
    subst l9
    subst y9 z9
    obtain ⟨Nq9, eh9, hv9⟩ := hQ9
    have N9 := Fr.app N7 Nq9
    subst hv9
    obtain ⟨fs, hr, hrun, hended, hW, hsame⟩ := X9.leave (v := (some (.int (nar .char x1)))) (fun h => by rw [Bd.returns] at h; cases h)
    refine ⟨_, _, pre0 _ ?_, hrun, hended, _, _, rfl, ?_, ⟨_, rfl⟩, hW, hsame.mono (by decide) (by decide)⟩
    · show Steps p.tables e below (s₁.setTop (mkF m 0 #[.val (.ref a1), .val (.int (0 : Int32))] [])) _
      refine XS.aloadN X0.here hx rfl (hb hby d20_0) rfl rfl ?_
      show Steps p.tables e below (s₁.setTop (mkF m 1 #[.val (.ref a1), .val (.int (0 : Int32))] [(.ref a1)])) _
      refine st7.trans ?_
      show Steps p.tables e below (T7.setTop (mkF m 4 #[.val (.ref a1), .val (.int (0 : Int32))] [(.int (1 : Int32))])) _
      refine XS.ifNo X7.here hx rfl (hb hby d20_4) rfl (by decide) ?_
      show Steps p.tables e below (T7.setTop (mkF m 7 #[.val (.ref a1), .val (.int (0 : Int32))] [])) _
      refine XS.aloadN X7.here hx rfl (hb hby d20_7) rfl rfl ?_
      show Steps p.tables e below (T7.setTop (mkF m 8 #[.val (.ref a1), .val (.int (0 : Int32))] [(.ref a1)])) _
      refine st8 _ ?_
      show Steps p.tables e below (T8.setTop (mkF m 11 #[.val (.ref a1), .val (.int (0 : Int32))] [(.ref tt1)])) _
      refine XS.iloadN X8.here hx rfl (hb hby d20_11) rfl ?_
      show Steps p.tables e below (T8.setTop (mkF m 12 #[.val (.ref a1), .val (.int (0 : Int32))] [(.int (0 : Int32)), (.ref tt1)])) _
      refine st9 _ ?_
      show Steps p.tables e below (T9.setTop (mkF m 15 #[.val (.ref a1), .val (.int (0 : Int32))] [(.int x1)])) _
      exact retN X9 hx (t := .char) Bd.returns (by simp) (hb hby d20_15) hr
    · show Qca0 Z a1 cc1 tt1 k01 ll1 vv1 n1 x1 y1 G1 fv h0 n0 _ T9.heap _
      rw [eh9]
      exact ⟨N9, rfl, (congrArg (fun z => some (Value.int z)) (own_narE hH))⟩
  · skip
    rw [r2] at hFc1
    rw [r3, r4] at hVv1
    obtain ⟨cq10, kq10, q10a, q10b, q10c⟩ := isOf hZ e0 hE1
    obtain ⟨_, _, ⟨T10, L10, k10, n10⟩, -, X10, ⟨Lc10, hQ10, l10, y10, z10⟩, st10⟩ := X0.virtualBack hx (y := (⟨"java/lang/String", "isLatin1", "()Z"⟩ : MethodName)) (z := (⟨"java/lang/String", "isLatin1", "()Z"⟩ : MethodName)) hown (mvT hZ (own_k hw 92 rfl)) (mvT hZ (own_k hw 93 rfl)) (notFace_of_selects (args := #[]) (mvT hZ (own_k hw 95 rfl))) (mvT hZ (own_k hw 95 rfl)) (mvT hZ (own_k hw 94 rfl)) (by decide) (backOf (W := 0) (rmIl1 l Z a0 hw [] a1 G1 h0 n0 Z0 hS (hG) hO hFc1) hZ (own_k hw 96 rfl) (own_k hw 7 rfl) (by decide) (by decide)) q10a q10c (g := (mkF m 1 #[.val (.ref a1), .val (.int (0 : Int32))] [(.ref a1)])) rfl (by rw [hml]; rfl) (Steps.refl _) (argsL := []) (rest := []) (lenOf own_pd_15 rfl) rfl (by show 2 * 0 + _ ≤ _; exact Nat.le_of_eq rfl) (hb hby d20_1) (fun _ _ => ⟨rfl, e0, (by decide : 0 + 0 ≤ _), (by decide : 0 + 0 ≤ _)⟩)
    dsimp only [Pt.U, Pt.locs, Pt.cells, Pt.slots] at X10 l10 y10 z10 st10 hQ10
    subst l10
    subst y10 z10
    obtain ⟨Nq10, eh10, hv10⟩ := hQ10
    have N10 := Fr.app N0 Nq10
    subst hv10
    obtain ⟨T11, X11, e11, st11⟩ := getF X10 hx hZ hown (host := "") (Or.inl (own_k hw 33 rfl)) Via.refl eh10 hFv1 (g := (mkF m 17 #[.val (.ref a1), .val (.int (0 : Int32))] [(.ref a1)])) rfl rfl (hb hby d20_17)
    obtain ⟨_, _, ⟨T12, L12, k12, n12⟩, -, X12, ⟨Lc12, hQ12, l12, y12, z12⟩, st12⟩ := Jvm.LawKit.callS X11 hx (y := (⟨"java/lang/StringUTF16", "charAt", "([BI)C"⟩ : MethodName)) hown (mvT hZ (own_k hw 97 rfl)) (mvT hZ (own_k hw 98 rfl)) (mvT hZ (own_k hw 22 rfl)) (mvT hZ (own_k hw 99 rfl)) (by decide) (backOf (W := 0) (rmUa40 l Z a0 hw [] tt1 k01 (((x1 >>> ((0 : Int32) &&& 31)).toInt8.toInt32).toInt8.toInt32) (((x1 >>> ((8 : Int32) &&& 31)).toInt8.toInt32).toInt8.toInt32) (((y1 >>> ((0 : Int32) &&& 31)).toInt8.toInt32).toInt8.toInt32) (((y1 >>> ((8 : Int32) &&& 31)).toInt8.toInt32).toInt8.toInt32) x1 fv h0 n0 Z0 hSa hSh hSl hSf (hfr) hO hVv1 (hH) ((own_dec16 hH))) hZ (own_k hw 99 rfl) (own_k hw 22 rfl) (by decide) (by decide)) (g := (mkF m 21 #[.val (.ref a1), .val (.int (0 : Int32))] [(.int (0 : Int32)), (.ref tt1)])) rfl (by rw [hml]; rfl) (argsL := [(.ref tt1), (.int (0 : Int32))]) (rest := []) (lenOf own_pd_5 rfl) rfl (by show 2 * 0 + _ ≤ _; exact Nat.le_of_eq rfl) (hb hby d20_21) (fun _ _ => ⟨rfl, e11, (by decide : 0 + 0 ≤ _), (by decide : 0 + 0 ≤ _)⟩)
    dsimp only [Pt.U, Pt.locs, Pt.cells, Pt.slots] at X12 l12 y12 z12 st12 hQ12
    subst l12
    subst y12 z12
    obtain ⟨Nq12, eh12, hv12⟩ := hQ12
    have N12 := Fr.app N10 Nq12
    subst hv12
    obtain ⟨fs, hr, hrun, hended, hW, hsame⟩ := X12.leave (v := (some (.int (nar .char x1)))) (fun h => by rw [Bd.returns] at h; cases h)
    refine ⟨_, _, pre0 _ ?_, hrun, hended, _, _, rfl, ?_, ⟨_, rfl⟩, hW, hsame.mono (by decide) (by decide)⟩
    · show Steps p.tables e below (s₁.setTop (mkF m 0 #[.val (.ref a1), .val (.int (0 : Int32))] [])) _
      refine XS.aloadN X0.here hx rfl (hb hby d20_0) rfl rfl ?_
      show Steps p.tables e below (s₁.setTop (mkF m 1 #[.val (.ref a1), .val (.int (0 : Int32))] [(.ref a1)])) _
      refine st10.trans ?_
      show Steps p.tables e below (T10.setTop (mkF m 4 #[.val (.ref a1), .val (.int (0 : Int32))] [(.int (0 : Int32))])) _
      refine XS.ifYes X10.here hx rfl (pc0 := 4) (pc' := 16) rfl (hb hby d20_4) rfl (by decide) (by decide) (by decide) ?_
      show Steps p.tables e below (T10.setTop (mkF m 16 #[.val (.ref a1), .val (.int (0 : Int32))] [])) _
      refine XS.aloadN X10.here hx rfl (hb hby d20_16) rfl rfl ?_
      show Steps p.tables e below (T10.setTop (mkF m 17 #[.val (.ref a1), .val (.int (0 : Int32))] [(.ref a1)])) _
      refine st11 _ ?_
      show Steps p.tables e below (T11.setTop (mkF m 20 #[.val (.ref a1), .val (.int (0 : Int32))] [(.ref tt1)])) _
      refine XS.iloadN X11.here hx rfl (hb hby d20_20) rfl ?_
      show Steps p.tables e below (T11.setTop (mkF m 21 #[.val (.ref a1), .val (.int (0 : Int32))] [(.int (0 : Int32)), (.ref tt1)])) _
      refine st12 _ ?_
      show Steps p.tables e below (T12.setTop (mkF m 24 #[.val (.ref a1), .val (.int (0 : Int32))] [(.int x1)])) _
      exact retN X12 hx (t := .char) Bd.returns (by simp) (hb hby d20_24) hr
    · show Qca0 Z a1 cc1 tt1 k01 ll1 vv1 n1 x1 y1 G1 fv h0 n0 _ T12.heap _
      rw [eh12]
      exact ⟨N12, rfl, (congrArg (fun z => some (Value.int z)) (own_narE hH))⟩
theorem ef_ca1 (m : MethodId) (a1 : Addr) : entryFrame m #[(.ref a1), (.int (1 : Int32))] 2 = mkF m 0 #[.val (.ref a1), .val (.int (1 : Int32))] [] := by first | (simp [entryFrame, mkF, argsToLocals, Value.category]; done) | rfl
def Qca1 (Z : State) (a1 : Addr) (cc1 : Int32) (tt1 : Addr) (k01 : ClassId) (ll1 : Int32) (vv1 : List Value) (n1 : Int32) (x1 : Int32) (y1 : Int32) (G1 : Int32) (fv : Value) (h0 : Heap) (n0 : Nat) (v : Option Value) (h : Heap) (L : List Loc) : Prop := Fr n0 L ∧ h = h0 ∧ (v = some (.int y1))
set_option maxRecDepth 65536 in
set_option maxHeartbeats 40000000 in
theorem rmCa1 (l : Launch) (Z : State) (a0 : Array Value) (hw : ∀ d ∈ tables_1, d.before a0 Z = true) (ws : List Jvm.Cond) (a1 : Addr) (cc1 : Int32) (tt1 : Addr) (k01 : ClassId) (ll1 : Int32) (vv1 : List Value) (n1 : Int32) (x1 : Int32) (y1 : Int32) (G1 : Int32) (fv : Value) (h0 : Heap) (n0 : Nat) (Z0 : n0 ≤ h0.size) (hS : Sta Z Z.heap "java/lang/String" "COMPACT_STRINGS" "Z" (.int G1)) (hG : ¬ (G1 = (0 : Int32))) (hSa : Sta Z Z.heap "java/lang/StringUTF16" "$assertionsDisabled" "Z" (.int (1 : Int32))) (hSh : Sta Z Z.heap "java/lang/StringUTF16" "HI_BYTE_SHIFT" "I" (.int (0 : Int32))) (hSl : Sta Z Z.heap "java/lang/StringUTF16" "LO_BYTE_SHIFT" "I" (.int (8 : Int32))) (hSf : Sta Z Z.heap "jdk/internal/util/Preconditions" "SIOOBE_FORMATTER" "Ljava/util/function/BiFunction;" fv) (hfr : fv.isRef = true) (hO : Old Z n0 h0) (hE1 : Exa Z h0 a1 "java/lang/String") (hFc1 : Fld Z h0 a1 "java/lang/String" "coder" "B" (.int cc1)) (hFv1 : Fld Z h0 a1 "java/lang/String" "value" "[B" (.ref tt1)) (hVv1 : Arv Z h0 tt1 k01 .byte ll1 vv1 (.int (0 : Int32))) (hR1 : own_Rep n1 x1 y1 cc1 ll1 vv1) (hn : n1 = (2 : Int32)) (hH : own_H y1) :
    MetFree l (⟨"java/lang/String", "charAt", "(I)C"⟩ : MethodName) (head1 (Jvm.Cond.code (⟨"java/lang/String", "charAt", "(I)C"⟩ : MethodName) jdk_42_method_56_code 2 (some .char) :: ws) ({ frames := 4, cells := 0, slots := 0, locals := 53 } : Room)) (fun a U => a = #[(.ref a1), (.int (1 : Int32))] ∧ Z.Warmed39 U.vm ∧ U.heap = h0) (fun _ _ _ _ _ => True) (fun _ U o U' => ∃ v L, o = .returned v ∧ Qca1 Z a1 cc1 tt1 k01 ll1 vv1 n1 x1 y1 G1 fv h0 n0 v U'.heap L ∧ FrameEnd U o U' L ({ frames := 4, cells := 0, slots := 0, locals := 53 } : Room).cells ({ frames := 4, cells := 0, slots := 0, locals := 53 } : Room).slots) := by
  refine MetFree.of_bodySF (plainFor_of_name own_pn_5) hisR ?_
  intro p e s m args below meth c s₁ Bd hml0 hP hK
  obtain ⟨rfl, hZ, hh⟩ := hP
  have hx := Bd.exec
  have hby := Bd.bytes
  have hml : c.maxLocals = 2 := hml0
  have hown : s.vm.findClass "java/lang/String" = some m.cls := findClass_of_methodNamed Bd.named
  have hnm := (name_of_methodNamed Bd.named Bd.method).1
  have X0 : Stand p l e ({ frames := 4, cells := 0, slots := 0, locals := 53 } : Room) s m #[(.ref a1), (.int (1 : Int32))] below meth c s₁ [] 0 0 := Stand.of_body Bd
  have e0 : s₁.heap = h0 := by rw [← hh, Bd.state]; rfl
  have N0 := Fr.nil n0
  have pre0 : ∀ t, Steps p.tables e below (s₁.setTop (mkF m 0 #[.val (.ref a1), .val (.int (1 : Int32))] [])) t → Steps p.tables e below (s₁.setTop (entryFrame m #[(.ref a1), (.int (1 : Int32))] 2)) t := fun t k => castTop (ef_ca1 m a1) k
  rcases hR1 with ⟨r1, r2, r3, r4⟩ | ⟨r1, r2, r3, r4, r5⟩ | ⟨r1, r2, r3, r4⟩ | ⟨r1, r2, r3, r4, r5, r6⟩ | ⟨r1, r2, r3, r4⟩
  · skip
    exact absurd (r1.symm.trans hn) (by decide)
  · skip
    exact absurd (r1.symm.trans hn) (by decide)
  · skip
    exact absurd (r1.symm.trans hn) (by decide)
  · skip
    rw [r2] at hFc1
    rw [r3, r4] at hVv1
    obtain ⟨cq1, kq1, q1a, q1b, q1c⟩ := isOf hZ e0 hE1
    obtain ⟨_, _, ⟨T1, L1, k1, n1⟩, -, X1, ⟨Lc1, hQ1, l1, y1, z1⟩, st1⟩ := X0.virtualBack hx (y := (⟨"java/lang/String", "isLatin1", "()Z"⟩ : MethodName)) (z := (⟨"java/lang/String", "isLatin1", "()Z"⟩ : MethodName)) hown (mvT hZ (own_k hw 92 rfl)) (mvT hZ (own_k hw 93 rfl)) (notFace_of_selects (args := #[]) (mvT hZ (own_k hw 95 rfl))) (mvT hZ (own_k hw 95 rfl)) (mvT hZ (own_k hw 94 rfl)) (by decide) (backOf (W := 0) (rmIl0 l Z a0 hw [] a1 G1 h0 n0 Z0 hS (hG) hO hFc1) hZ (own_k hw 96 rfl) (own_k hw 7 rfl) (by decide) (by decide)) q1a q1c (g := (mkF m 1 #[.val (.ref a1), .val (.int (1 : Int32))] [(.ref a1)])) rfl (by rw [hml]; rfl) (Steps.refl _) (argsL := []) (rest := []) (lenOf own_pd_15 rfl) rfl (by show 2 * 0 + _ ≤ _; exact Nat.le_of_eq rfl) (hb hby d20_1) (fun _ _ => ⟨rfl, e0, (by decide : 0 + 0 ≤ _), (by decide : 0 + 0 ≤ _)⟩)
    dsimp only [Pt.U, Pt.locs, Pt.cells, Pt.slots] at X1 l1 y1 z1 st1 hQ1
    subst l1
    subst y1 z1
    obtain ⟨Nq1, eh1, hv1⟩ := hQ1
    have N1 := Fr.app N0 Nq1
    subst hv1
    obtain ⟨T2, X2, e2, st2⟩ := getF X1 hx hZ hown (host := "") (Or.inl (own_k hw 33 rfl)) Via.refl eh1 hFv1 (g := (mkF m 8 #[.val (.ref a1), .val (.int (1 : Int32))] [(.ref a1)])) rfl rfl (hb hby d20_8)
    obtain ⟨_, _, ⟨T3, L3, k3, n3⟩, -, X3, ⟨Lc3, hQ3, l3, y3, z3⟩, st3⟩ := Jvm.LawKit.callS X2 hx (y := (⟨"java/lang/StringLatin1", "charAt", "([BI)C"⟩ : MethodName)) hown (mvT hZ (own_k hw 122 rfl)) (mvT hZ (own_k hw 123 rfl)) (mvT hZ (own_k hw 124 rfl)) (mvT hZ (own_k hw 125 rfl)) (by decide) (backOf (W := 0) (rmLa21 l Z a0 hw [] tt1 k01 ((x1.toInt8.toInt32).toInt8.toInt32) ((y1.toInt8.toInt32).toInt8.toInt32) y1 fv h0 n0 Z0 hSf (hfr) hO hVv1 ((own_dec8 hH r6))) hZ (own_k hw 125 rfl) (own_k hw 124 rfl) (by decide) (by decide)) (g := (mkF m 12 #[.val (.ref a1), .val (.int (1 : Int32))] [(.int (1 : Int32)), (.ref tt1)])) rfl (by rw [hml]; rfl) (argsL := [(.ref tt1), (.int (1 : Int32))]) (rest := []) (lenOf own_pd_5 rfl) rfl (by show 2 * 0 + _ ≤ _; exact Nat.le_of_eq rfl) (hb hby d20_12) (fun _ _ => ⟨rfl, e2, (by decide : 0 + 0 ≤ _), (by decide : 0 + 0 ≤ _)⟩)
    dsimp only [Pt.U, Pt.locs, Pt.cells, Pt.slots] at X3 l3 y3 z3 st3 hQ3
    subst l3
    subst y3 z3
    obtain ⟨Nq3, eh3, hv3⟩ := hQ3
    have N3 := Fr.app N1 Nq3
    subst hv3
    obtain ⟨fs, hr, hrun, hended, hW, hsame⟩ := X3.leave (v := (some (.int (nar .char y1)))) (fun h => by rw [Bd.returns] at h; cases h)
    refine ⟨_, _, pre0 _ ?_, hrun, hended, _, _, rfl, ?_, ⟨_, rfl⟩, hW, hsame.mono (by decide) (by decide)⟩
    · show Steps p.tables e below (s₁.setTop (mkF m 0 #[.val (.ref a1), .val (.int (1 : Int32))] [])) _
      refine XS.aloadN X0.here hx rfl (hb hby d20_0) rfl rfl ?_
      show Steps p.tables e below (s₁.setTop (mkF m 1 #[.val (.ref a1), .val (.int (1 : Int32))] [(.ref a1)])) _
      refine st1.trans ?_
      show Steps p.tables e below (T1.setTop (mkF m 4 #[.val (.ref a1), .val (.int (1 : Int32))] [(.int (1 : Int32))])) _
      refine XS.ifNo X1.here hx rfl (hb hby d20_4) rfl (by decide) ?_
      show Steps p.tables e below (T1.setTop (mkF m 7 #[.val (.ref a1), .val (.int (1 : Int32))] [])) _
      refine XS.aloadN X1.here hx rfl (hb hby d20_7) rfl rfl ?_
      show Steps p.tables e below (T1.setTop (mkF m 8 #[.val (.ref a1), .val (.int (1 : Int32))] [(.ref a1)])) _
      refine st2 _ ?_
      show Steps p.tables e below (T2.setTop (mkF m 11 #[.val (.ref a1), .val (.int (1 : Int32))] [(.ref tt1)])) _
      refine XS.iloadN X2.here hx rfl (hb hby d20_11) rfl ?_
      show Steps p.tables e below (T2.setTop (mkF m 12 #[.val (.ref a1), .val (.int (1 : Int32))] [(.int (1 : Int32)), (.ref tt1)])) _
      refine st3 _ ?_
      show Steps p.tables e below (T3.setTop (mkF m 15 #[.val (.ref a1), .val (.int (1 : Int32))] [(.int y1)])) _
      exact retN X3 hx (t := .char) Bd.returns (by simp) (hb hby d20_15) hr
    · show Qca1 Z a1 cc1 tt1 k01 ll1 vv1 n1 x1 y1 G1 fv h0 n0 _ T3.heap _
      rw [eh3]
      exact ⟨N3, rfl, (congrArg (fun z => some (Value.int z)) (own_narE hH))⟩
  · skip
    rw [r2] at hFc1
    rw [r3, r4] at hVv1
    obtain ⟨cq4, kq4, q4a, q4b, q4c⟩ := isOf hZ e0 hE1
    obtain ⟨_, _, ⟨T4, L4, k4, n4⟩, -, X4, ⟨Lc4, hQ4, l4, y4, z4⟩, st4⟩ := X0.virtualBack hx (y := (⟨"java/lang/String", "isLatin1", "()Z"⟩ : MethodName)) (z := (⟨"java/lang/String", "isLatin1", "()Z"⟩ : MethodName)) hown (mvT hZ (own_k hw 92 rfl)) (mvT hZ (own_k hw 93 rfl)) (notFace_of_selects (args := #[]) (mvT hZ (own_k hw 95 rfl))) (mvT hZ (own_k hw 95 rfl)) (mvT hZ (own_k hw 94 rfl)) (by decide) (backOf (W := 0) (rmIl1 l Z a0 hw [] a1 G1 h0 n0 Z0 hS (hG) hO hFc1) hZ (own_k hw 96 rfl) (own_k hw 7 rfl) (by decide) (by decide)) q4a q4c (g := (mkF m 1 #[.val (.ref a1), .val (.int (1 : Int32))] [(.ref a1)])) rfl (by rw [hml]; rfl) (Steps.refl _) (argsL := []) (rest := []) (lenOf own_pd_15 rfl) rfl (by show 2 * 0 + _ ≤ _; exact Nat.le_of_eq rfl) (hb hby d20_1) (fun _ _ => ⟨rfl, e0, (by decide : 0 + 0 ≤ _), (by decide : 0 + 0 ≤ _)⟩)
    dsimp only [Pt.U, Pt.locs, Pt.cells, Pt.slots] at X4 l4 y4 z4 st4 hQ4
    subst l4
    subst y4 z4
    obtain ⟨Nq4, eh4, hv4⟩ := hQ4
    have N4 := Fr.app N0 Nq4
    subst hv4
    obtain ⟨T5, X5, e5, st5⟩ := getF X4 hx hZ hown (host := "") (Or.inl (own_k hw 33 rfl)) Via.refl eh4 hFv1 (g := (mkF m 17 #[.val (.ref a1), .val (.int (1 : Int32))] [(.ref a1)])) rfl rfl (hb hby d20_17)
    obtain ⟨_, _, ⟨T6, L6, k6, n6⟩, -, X6, ⟨Lc6, hQ6, l6, y6, z6⟩, st6⟩ := Jvm.LawKit.callS X5 hx (y := (⟨"java/lang/StringUTF16", "charAt", "([BI)C"⟩ : MethodName)) hown (mvT hZ (own_k hw 97 rfl)) (mvT hZ (own_k hw 98 rfl)) (mvT hZ (own_k hw 22 rfl)) (mvT hZ (own_k hw 99 rfl)) (by decide) (backOf (W := 0) (rmUa41 l Z a0 hw [] tt1 k01 (((x1 >>> ((0 : Int32) &&& 31)).toInt8.toInt32).toInt8.toInt32) (((x1 >>> ((8 : Int32) &&& 31)).toInt8.toInt32).toInt8.toInt32) (((y1 >>> ((0 : Int32) &&& 31)).toInt8.toInt32).toInt8.toInt32) (((y1 >>> ((8 : Int32) &&& 31)).toInt8.toInt32).toInt8.toInt32) y1 fv h0 n0 Z0 hSa hSh hSl hSf (hfr) hO hVv1 (hH) ((own_dec16 hH))) hZ (own_k hw 99 rfl) (own_k hw 22 rfl) (by decide) (by decide)) (g := (mkF m 21 #[.val (.ref a1), .val (.int (1 : Int32))] [(.int (1 : Int32)), (.ref tt1)])) rfl (by rw [hml]; rfl) (argsL := [(.ref tt1), (.int (1 : Int32))]) (rest := []) (lenOf own_pd_5 rfl) rfl (by show 2 * 0 + _ ≤ _; exact Nat.le_of_eq rfl) (hb hby d20_21) (fun _ _ => ⟨rfl, e5, (by decide : 0 + 0 ≤ _), (by decide : 0 + 0 ≤ _)⟩)
    dsimp only [Pt.U, Pt.locs, Pt.cells, Pt.slots] at X6 l6 y6 z6 st6 hQ6
    subst l6
    subst y6 z6
    obtain ⟨Nq6, eh6, hv6⟩ := hQ6
    have N6 := Fr.app N4 Nq6
    subst hv6
    obtain ⟨fs, hr, hrun, hended, hW, hsame⟩ := X6.leave (v := (some (.int (nar .char y1)))) (fun h => by rw [Bd.returns] at h; cases h)
    refine ⟨_, _, pre0 _ ?_, hrun, hended, _, _, rfl, ?_, ⟨_, rfl⟩, hW, hsame.mono (by decide) (by decide)⟩
    · show Steps p.tables e below (s₁.setTop (mkF m 0 #[.val (.ref a1), .val (.int (1 : Int32))] [])) _
      refine XS.aloadN X0.here hx rfl (hb hby d20_0) rfl rfl ?_
      show Steps p.tables e below (s₁.setTop (mkF m 1 #[.val (.ref a1), .val (.int (1 : Int32))] [(.ref a1)])) _
      refine st4.trans ?_
      show Steps p.tables e below (T4.setTop (mkF m 4 #[.val (.ref a1), .val (.int (1 : Int32))] [(.int (0 : Int32))])) _
      refine XS.ifYes X4.here hx rfl (pc0 := 4) (pc' := 16) rfl (hb hby d20_4) rfl (by decide) (by decide) (by decide) ?_
      show Steps p.tables e below (T4.setTop (mkF m 16 #[.val (.ref a1), .val (.int (1 : Int32))] [])) _
      refine XS.aloadN X4.here hx rfl (hb hby d20_16) rfl rfl ?_
      show Steps p.tables e below (T4.setTop (mkF m 17 #[.val (.ref a1), .val (.int (1 : Int32))] [(.ref a1)])) _
      refine st5 _ ?_
      show Steps p.tables e below (T5.setTop (mkF m 20 #[.val (.ref a1), .val (.int (1 : Int32))] [(.ref tt1)])) _
      refine XS.iloadN X5.here hx rfl (hb hby d20_20) rfl ?_
      show Steps p.tables e below (T5.setTop (mkF m 21 #[.val (.ref a1), .val (.int (1 : Int32))] [(.int (1 : Int32)), (.ref tt1)])) _
      refine st6 _ ?_
      show Steps p.tables e below (T6.setTop (mkF m 24 #[.val (.ref a1), .val (.int (1 : Int32))] [(.int y1)])) _
      exact retN X6 hx (t := .char) Bd.returns (by simp) (hb hby d20_24) hr
    · show Qca1 Z a1 cc1 tt1 k01 ll1 vv1 n1 x1 y1 G1 fv h0 n0 _ T6.heap _
      rw [eh6]
      exact ⟨N6, rfl, (congrArg (fun z => some (Value.int z)) (own_narE hH))⟩
theorem d10_0 : decode prog_1_method_2_code 0 = .ok (.aload_n 0, 1) := by decide +kernel
theorem d10_1 : decode prog_1_method_2_code 1 = .ok (.invokevirtual 7, 3) := by decide +kernel
theorem own_pd_16 : parseMethodDescriptor "()I" = some ⟨[], some .int⟩ := by decide +kernel
theorem d10_4 : decode prog_1_method_2_code 4 = .ok (.aload_n 1, 1) := by decide +kernel
theorem d10_5 : decode prog_1_method_2_code 5 = .ok (.invokevirtual 7, 3) := by decide +kernel
theorem d10_8 : decode prog_1_method_2_code 8 = .ok (.invokestatic 13, 3) := by decide +kernel
theorem own_pd_17 : parseMethodDescriptor "(II)I" = some ⟨[.int, .int], some .int⟩ := by decide +kernel
theorem d10_11 : decode prog_1_method_2_code 11 = .ok (.istore_n 2, 1) := by decide +kernel
theorem d10_12 : decode prog_1_method_2_code 12 = .ok (.iconst 0, 1) := by decide +kernel
theorem d10_13 : decode prog_1_method_2_code 13 = .ok (.istore_n 3, 1) := by decide +kernel
theorem d10_14 : decode prog_1_method_2_code 14 = .ok (.iload_n 3, 1) := by decide +kernel
theorem d10_15 : decode prog_1_method_2_code 15 = .ok (.iload_n 2, 1) := by decide +kernel
theorem d10_16 : decode prog_1_method_2_code 16 = .ok (.if_icmp .ge 42, 3) := by decide +kernel
theorem d10_58 : decode prog_1_method_2_code 58 = .ok (.aload_n 0, 1) := by decide +kernel
theorem d10_59 : decode prog_1_method_2_code 59 = .ok (.invokevirtual 7, 3) := by decide +kernel
theorem d10_62 : decode prog_1_method_2_code 62 = .ok (.aload_n 1, 1) := by decide +kernel
theorem d10_63 : decode prog_1_method_2_code 63 = .ok (.invokevirtual 7, 3) := by decide +kernel
theorem d10_66 : decode prog_1_method_2_code 66 = .ok (.invokestatic 29, 3) := by decide +kernel
theorem d10_69 : decode prog_1_method_2_code 69 = .ok (.ireturn, 1) := by decide +kernel
theorem d10_19 : decode prog_1_method_2_code 19 = .ok (.aload_n 0, 1) := by decide +kernel
theorem d10_20 : decode prog_1_method_2_code 20 = .ok (.iload_n 3, 1) := by decide +kernel
theorem d10_21 : decode prog_1_method_2_code 21 = .ok (.invokevirtual 19, 3) := by decide +kernel
theorem own_pd_18 : parseMethodDescriptor "(I)C" = some ⟨[.int], some .char⟩ := by decide +kernel
theorem d10_24 : decode prog_1_method_2_code 24 = .ok (.aload_n 1, 1) := by decide +kernel
theorem d10_25 : decode prog_1_method_2_code 25 = .ok (.iload_n 3, 1) := by decide +kernel
theorem d10_26 : decode prog_1_method_2_code 26 = .ok (.invokevirtual 19, 3) := by decide +kernel
theorem d10_29 : decode prog_1_method_2_code 29 = .ok (.if_icmp .eq 23, 3) := by decide +kernel
theorem d10_52 : decode prog_1_method_2_code 52 = .ok (.iinc 3 1, 3) := by decide +kernel
theorem d10_55 : decode prog_1_method_2_code 55 = .ok (.goto (-41), 3) := by decide +kernel
theorem d10_32 : decode prog_1_method_2_code 32 = .ok (.aload_n 0, 1) := by decide +kernel
theorem d10_33 : decode prog_1_method_2_code 33 = .ok (.iload_n 3, 1) := by decide +kernel
theorem d10_34 : decode prog_1_method_2_code 34 = .ok (.invokevirtual 19, 3) := by decide +kernel
theorem d10_37 : decode prog_1_method_2_code 37 = .ok (.invokestatic 23, 3) := by decide +kernel
theorem own_pd_19 : parseMethodDescriptor "(C)I" = some ⟨[.char], some .int⟩ := by decide +kernel
theorem d10_40 : decode prog_1_method_2_code 40 = .ok (.aload_n 1, 1) := by decide +kernel
theorem d10_41 : decode prog_1_method_2_code 41 = .ok (.iload_n 3, 1) := by decide +kernel
theorem d10_42 : decode prog_1_method_2_code 42 = .ok (.invokevirtual 19, 3) := by decide +kernel
theorem d10_45 : decode prog_1_method_2_code 45 = .ok (.invokestatic 23, 3) := by decide +kernel
theorem d10_48 : decode prog_1_method_2_code 48 = .ok (.invokestatic 29, 3) := by decide +kernel
theorem d10_51 : decode prog_1_method_2_code 51 = .ok (.ireturn, 1) := by decide +kernel
theorem ef_cmp (m : MethodId) (a1 : Addr) (a2 : Addr) : entryFrame m #[(.ref a1), (.ref a2)] 4 = mkF m 0 #[.val (.ref a1), .val (.ref a2), .unset, .unset] [] := by first | (simp [entryFrame, mkF, argsToLocals, Value.category]; done) | rfl
def Qcmp (Z : State) (a1 : Addr) (a2 : Addr) (cc1 : Int32) (tt1 : Addr) (k01 : ClassId) (ll1 : Int32) (vv1 : List Value) (n1 : Int32) (x1 : Int32) (y1 : Int32) (cc2 : Int32) (tt2 : Addr) (k02 : ClassId) (ll2 : Int32) (vv2 : List Value) (n2 : Int32) (x2 : Int32) (y2 : Int32) (G1 : Int32) (fv : Value) (h0 : Heap) (n0 : Nat) (v : Option Value) (h : Heap) (L : List Loc) : Prop := Fr n0 L ∧ h = h0 ∧ (v = some (.int (own_cmp n1 n2 x1 y1 x2 y2)))
set_option maxRecDepth 65536 in
set_option maxHeartbeats 40000000 in
theorem rmCmp (l : Launch) (Z : State) (a0 : Array Value) (hw : ∀ d ∈ tables_1, d.before a0 Z = true) (ws : List Jvm.Cond) (a1 : Addr) (a2 : Addr) (cc1 : Int32) (tt1 : Addr) (k01 : ClassId) (ll1 : Int32) (vv1 : List Value) (n1 : Int32) (x1 : Int32) (y1 : Int32) (cc2 : Int32) (tt2 : Addr) (k02 : ClassId) (ll2 : Int32) (vv2 : List Value) (n2 : Int32) (x2 : Int32) (y2 : Int32) (G1 : Int32) (fv : Value) (h0 : Heap) (n0 : Nat) (Z0 : n0 ≤ h0.size) (hS : Sta Z Z.heap "java/lang/String" "COMPACT_STRINGS" "Z" (.int G1)) (hG : ¬ (G1 = (0 : Int32))) (hSa : Sta Z Z.heap "java/lang/StringUTF16" "$assertionsDisabled" "Z" (.int (1 : Int32))) (hSh : Sta Z Z.heap "java/lang/StringUTF16" "HI_BYTE_SHIFT" "I" (.int (0 : Int32))) (hSl : Sta Z Z.heap "java/lang/StringUTF16" "LO_BYTE_SHIFT" "I" (.int (8 : Int32))) (hSf : Sta Z Z.heap "jdk/internal/util/Preconditions" "SIOOBE_FORMATTER" "Ljava/util/function/BiFunction;" fv) (hfr : fv.isRef = true) (hO : Old Z n0 h0) (hE1 : Exa Z h0 a1 "java/lang/String") (hFc1 : Fld Z h0 a1 "java/lang/String" "coder" "B" (.int cc1)) (hFv1 : Fld Z h0 a1 "java/lang/String" "value" "[B" (.ref tt1)) (hVv1 : Arv Z h0 tt1 k01 .byte ll1 vv1 (.int (0 : Int32))) (hR1 : own_Rep n1 x1 y1 cc1 ll1 vv1) (hE2 : Exa Z h0 a2 "java/lang/String") (hFc2 : Fld Z h0 a2 "java/lang/String" "coder" "B" (.int cc2)) (hFv2 : Fld Z h0 a2 "java/lang/String" "value" "[B" (.ref tt2)) (hVv2 : Arv Z h0 tt2 k02 .byte ll2 vv2 (.int (0 : Int32))) (hR2 : own_Rep n2 x2 y2 cc2 ll2 vv2) (hHx1 : own_H x1) (hHy1 : own_H y1) (hHx2 : own_H x2) (hHy2 : own_H y2) :
    MetFree l (⟨"com/example/topics_into_queries/topicsintoqueries/CodePoints", "compare", "(Ljava/lang/String;Ljava/lang/String;)I"⟩ : MethodName) (head1 (Jvm.Cond.code (⟨"com/example/topics_into_queries/topicsintoqueries/CodePoints", "compare", "(Ljava/lang/String;Ljava/lang/String;)I"⟩ : MethodName) prog_1_method_2_code 4 (some .int) :: ws) ({ frames := 5, cells := 0, slots := 0, locals := 67 } : Room)) (fun a U => a = #[(.ref a1), (.ref a2)] ∧ Z.Warmed39 U.vm ∧ U.heap = h0) (fun _ _ _ _ _ => True) (fun _ U o U' => ∃ v L, o = .returned v ∧ Qcmp Z a1 a2 cc1 tt1 k01 ll1 vv1 n1 x1 y1 cc2 tt2 k02 ll2 vv2 n2 x2 y2 G1 fv h0 n0 v U'.heap L ∧ FrameEnd U o U' L ({ frames := 5, cells := 0, slots := 0, locals := 67 } : Room).cells ({ frames := 5, cells := 0, slots := 0, locals := 67 } : Room).slots) := by
  refine MetFree.of_bodySF (plainFor_of_name own_pn_3) hisR ?_
  intro p e s m args below meth c s₁ Bd hml0 hP hK
  obtain ⟨rfl, hZ, hh⟩ := hP
  have hx := Bd.exec
  have hby := Bd.bytes
  have hml : c.maxLocals = 4 := hml0
  have hown : s.vm.findClass "com/example/topics_into_queries/topicsintoqueries/CodePoints" = some m.cls := findClass_of_methodNamed Bd.named
  have hnm := (name_of_methodNamed Bd.named Bd.method).1
  have X0 : Stand p l e ({ frames := 5, cells := 0, slots := 0, locals := 67 } : Room) s m #[(.ref a1), (.ref a2)] below meth c s₁ [] 0 0 := Stand.of_body Bd
  have e0 : s₁.heap = h0 := by rw [← hh, Bd.state]; rfl
  have N0 := Fr.nil n0
  have pre0 : ∀ t, Steps p.tables e below (s₁.setTop (mkF m 0 #[.val (.ref a1), .val (.ref a2), .unset, .unset] [])) t → Steps p.tables e below (s₁.setTop (entryFrame m #[(.ref a1), (.ref a2)] 4)) t := fun t k => castTop (ef_cmp m a1 a2) k
  rcases own_RepN hR1 with rfl | rfl | rfl
  · skip
    rcases own_RepN hR2 with rfl | rfl | rfl
    · skip
      obtain ⟨cq1, kq1, q1a, q1b, q1c⟩ := isOf hZ e0 hE1
      obtain ⟨_, _, ⟨T1, L1, k1, n1⟩, -, X1, ⟨Lc1, hQ1, l1, y1, z1⟩, st1⟩ := X0.virtualBack hx (y := (⟨"java/lang/String", "length", "()I"⟩ : MethodName)) (z := (⟨"java/lang/String", "length", "()I"⟩ : MethodName)) hown (mvT hZ (own_k hw 49 rfl)) (mvT hZ (own_k hw 50 rfl)) (notFace_of_selects (args := #[]) (mvT hZ (own_k hw 52 rfl))) (mvT hZ (own_k hw 52 rfl)) (mvT hZ (own_k hw 51 rfl)) (by decide) (backOf (W := 0) (rmLen l Z a0 hw [] a1 cc1 tt1 k01 ll1 vv1 (0 : Int32) x1 y1 G1 h0 n0 Z0 hS (hG) hO hE1 hFc1 hFv1 hVv1 (hR1)) hZ (own_k hw 53 rfl) (own_k hw 7 rfl) (by decide) (by decide)) q1a q1c (g := (mkF m 1 #[.val (.ref a1), .val (.ref a2), .unset, .unset] [(.ref a1)])) rfl (by rw [hml]; rfl) (Steps.refl _) (argsL := []) (rest := []) (lenOf own_pd_16 rfl) rfl (by show 2 * 0 + _ ≤ _; exact Nat.le_of_eq rfl) (hb hby d10_1) (fun _ _ => ⟨rfl, e0, (by decide : 0 + 0 ≤ _), (by decide : 0 + 0 ≤ _)⟩)
      dsimp only [Pt.U, Pt.locs, Pt.cells, Pt.slots] at X1 l1 y1 z1 st1 hQ1
      subst l1
      subst y1 z1
      obtain ⟨Nq1, eh1, hv1⟩ := hQ1
      have N1 := Fr.app N0 Nq1
      subst hv1
      obtain ⟨cq2, kq2, q2a, q2b, q2c⟩ := isOf hZ eh1 hE2
      obtain ⟨_, _, ⟨T2, L2, k2, n2⟩, -, X2, ⟨Lc2, hQ2, l2, y2, z2⟩, st2⟩ := X1.virtualBack hx (y := (⟨"java/lang/String", "length", "()I"⟩ : MethodName)) (z := (⟨"java/lang/String", "length", "()I"⟩ : MethodName)) hown (mvT hZ (own_k hw 49 rfl)) (mvT hZ (own_k hw 50 rfl)) (notFace_of_selects (args := #[]) (mvT hZ (own_k hw 52 rfl))) (mvT hZ (own_k hw 52 rfl)) (mvT hZ (own_k hw 51 rfl)) (by decide) (backOf (W := 1) (rmLen l Z a0 hw [] a2 cc2 tt2 k02 ll2 vv2 (0 : Int32) x2 y2 G1 h0 n0 Z0 hS (hG) hO hE2 hFc2 hFv2 hVv2 (hR2)) hZ (own_k hw 53 rfl) (own_k hw 7 rfl) (by decide) (by decide)) q2a q2c (g := (mkF m 5 #[.val (.ref a1), .val (.ref a2), .unset, .unset] [(.ref a2), (.int (0 : Int32))])) rfl (by rw [hml]; rfl) (Steps.refl _) (argsL := []) (rest := [(.int (0 : Int32))]) (lenOf own_pd_16 rfl) rfl (by show 2 * 0 + _ ≤ _; exact Nat.le_of_eq rfl) (hb hby d10_5) (fun _ _ => ⟨rfl, eh1, (by decide : 0 + 0 ≤ _), (by decide : 0 + 0 ≤ _)⟩)
      dsimp only [Pt.U, Pt.locs, Pt.cells, Pt.slots] at X2 l2 y2 z2 st2 hQ2
      subst l2
      subst y2 z2
      obtain ⟨Nq2, eh2, hv2⟩ := hQ2
      have N2 := Fr.app N1 Nq2
      subst hv2
      obtain ⟨_, _, ⟨T3, L3, k3, n3⟩, -, X3, ⟨Lc3, hQ3, l3, y3, z3⟩, st3⟩ := Jvm.LawKit.callS X2 hx (y := (⟨"java/lang/Math", "min", "(II)I"⟩ : MethodName)) hown (mvT hZ (own_k hw 59 rfl)) (mvT hZ (own_k hw 39 rfl)) (mvT hZ (own_k hw 40 rfl)) (mvT hZ (own_k hw 41 rfl)) (by decide) (backOf (W := 0) (rmMo l Z a0 hw [] (0 : Int32) (0 : Int32) h0 n0 Z0 ) hZ (own_k hw 41 rfl) (own_k hw 40 rfl) (by decide) (by decide)) (g := (mkF m 8 #[.val (.ref a1), .val (.ref a2), .unset, .unset] [(.int (0 : Int32)), (.int (0 : Int32))])) rfl (by rw [hml]; rfl) (argsL := [(.int (0 : Int32)), (.int (0 : Int32))]) (rest := []) (lenOf own_pd_17 rfl) rfl (by show 2 * 0 + _ ≤ _; exact Nat.le_of_eq rfl) (hb hby d10_8) (fun _ _ => ⟨rfl, eh2, (by decide : 0 + 0 ≤ _), (by decide : 0 + 0 ≤ _)⟩)
      dsimp only [Pt.U, Pt.locs, Pt.cells, Pt.slots] at X3 l3 y3 z3 st3 hQ3
      subst l3
      subst y3 z3
      obtain ⟨Nq3, eh3, hv3⟩ := hQ3
      have N3 := Fr.app N2 Nq3
      rcases hv3 with ⟨hv3, hd3_0⟩ | ⟨hv3, hd3_0⟩
      · subst hv3
        exact absurd hd3_0 (by decide)
      · subst hv3
        obtain ⟨cq4, kq4, q4a, q4b, q4c⟩ := isOf hZ eh3 hE1
        obtain ⟨_, _, ⟨T4, L4, k4, n4⟩, -, X4, ⟨Lc4, hQ4, l4, y4, z4⟩, st4⟩ := X3.virtualBack hx (y := (⟨"java/lang/String", "length", "()I"⟩ : MethodName)) (z := (⟨"java/lang/String", "length", "()I"⟩ : MethodName)) hown (mvT hZ (own_k hw 49 rfl)) (mvT hZ (own_k hw 50 rfl)) (notFace_of_selects (args := #[]) (mvT hZ (own_k hw 52 rfl))) (mvT hZ (own_k hw 52 rfl)) (mvT hZ (own_k hw 51 rfl)) (by decide) (backOf (W := 0) (rmLen l Z a0 hw [] a1 cc1 tt1 k01 ll1 vv1 (0 : Int32) x1 y1 G1 h0 n0 Z0 hS (hG) hO hE1 hFc1 hFv1 hVv1 (hR1)) hZ (own_k hw 53 rfl) (own_k hw 7 rfl) (by decide) (by decide)) q4a q4c (g := (mkF m 59 #[.val (.ref a1), .val (.ref a2), .val (.int (0 : Int32)), .val (.int (0 : Int32))] [(.ref a1)])) rfl (by rw [hml]; rfl) (Steps.refl _) (argsL := []) (rest := []) (lenOf own_pd_16 rfl) rfl (by show 2 * 0 + _ ≤ _; exact Nat.le_of_eq rfl) (hb hby d10_59) (fun _ _ => ⟨rfl, eh3, (by decide : 0 + 0 ≤ _), (by decide : 0 + 0 ≤ _)⟩)
        dsimp only [Pt.U, Pt.locs, Pt.cells, Pt.slots] at X4 l4 y4 z4 st4 hQ4
        subst l4
        subst y4 z4
        obtain ⟨Nq4, eh4, hv4⟩ := hQ4
        have N4 := Fr.app N3 Nq4
        subst hv4
        obtain ⟨cq5, kq5, q5a, q5b, q5c⟩ := isOf hZ eh4 hE2
        obtain ⟨_, _, ⟨T5, L5, k5, n5⟩, -, X5, ⟨Lc5, hQ5, l5, y5, z5⟩, st5⟩ := X4.virtualBack hx (y := (⟨"java/lang/String", "length", "()I"⟩ : MethodName)) (z := (⟨"java/lang/String", "length", "()I"⟩ : MethodName)) hown (mvT hZ (own_k hw 49 rfl)) (mvT hZ (own_k hw 50 rfl)) (notFace_of_selects (args := #[]) (mvT hZ (own_k hw 52 rfl))) (mvT hZ (own_k hw 52 rfl)) (mvT hZ (own_k hw 51 rfl)) (by decide) (backOf (W := 1) (rmLen l Z a0 hw [] a2 cc2 tt2 k02 ll2 vv2 (0 : Int32) x2 y2 G1 h0 n0 Z0 hS (hG) hO hE2 hFc2 hFv2 hVv2 (hR2)) hZ (own_k hw 53 rfl) (own_k hw 7 rfl) (by decide) (by decide)) q5a q5c (g := (mkF m 63 #[.val (.ref a1), .val (.ref a2), .val (.int (0 : Int32)), .val (.int (0 : Int32))] [(.ref a2), (.int (0 : Int32))])) rfl (by rw [hml]; rfl) (Steps.refl _) (argsL := []) (rest := [(.int (0 : Int32))]) (lenOf own_pd_16 rfl) rfl (by show 2 * 0 + _ ≤ _; exact Nat.le_of_eq rfl) (hb hby d10_63) (fun _ _ => ⟨rfl, eh4, (by decide : 0 + 0 ≤ _), (by decide : 0 + 0 ≤ _)⟩)
        dsimp only [Pt.U, Pt.locs, Pt.cells, Pt.slots] at X5 l5 y5 z5 st5 hQ5
        subst l5
        subst y5 z5
        obtain ⟨Nq5, eh5, hv5⟩ := hQ5
        have N5 := Fr.app N4 Nq5
        subst hv5
        obtain ⟨_, _, ⟨T6, L6, k6, n6⟩, -, X6, ⟨Lc6, hQ6, l6, y6, z6⟩, st6⟩ := Jvm.LawKit.callS X5 hx (y := (⟨"java/lang/Integer", "compare", "(II)I"⟩ : MethodName)) hown (mvT hZ (own_k hw 60 rfl)) (mvT hZ (own_k hw 61 rfl)) (mvT hZ (own_k hw 62 rfl)) (mvT hZ (own_k hw 63 rfl)) (by decide) (backOf (W := 0) (rmIc l Z a0 hw [] (0 : Int32) (0 : Int32) h0 n0 Z0 ) hZ (own_k hw 63 rfl) (own_k hw 62 rfl) (by decide) (by decide)) (g := (mkF m 66 #[.val (.ref a1), .val (.ref a2), .val (.int (0 : Int32)), .val (.int (0 : Int32))] [(.int (0 : Int32)), (.int (0 : Int32))])) rfl (by rw [hml]; rfl) (argsL := [(.int (0 : Int32)), (.int (0 : Int32))]) (rest := []) (lenOf own_pd_17 rfl) rfl (by show 2 * 0 + _ ≤ _; exact Nat.le_of_eq rfl) (hb hby d10_66) (fun _ _ => ⟨rfl, eh5, (by decide : 0 + 0 ≤ _), (by decide : 0 + 0 ≤ _)⟩)
        dsimp only [Pt.U, Pt.locs, Pt.cells, Pt.slots] at X6 l6 y6 z6 st6 hQ6
        subst l6
        subst y6 z6
        obtain ⟨Nq6, eh6, hv6⟩ := hQ6
        have N6 := Fr.app N5 Nq6
        subst hv6
        obtain ⟨fs, hr, hrun, hended, hW, hsame⟩ := X6.leave (v := (some (.int (own_ic (0 : Int32) (0 : Int32))))) (fun h => by rw [Bd.returns] at h; cases h)
        refine ⟨_, _, pre0 _ ?_, hrun, hended, _, _, rfl, ?_, ⟨_, rfl⟩, hW, hsame.mono (by decide) (by decide)⟩
        · show Steps p.tables e below (s₁.setTop (mkF m 0 #[.val (.ref a1), .val (.ref a2), .unset, .unset] [])) _
          refine XS.aloadN X0.here hx rfl (hb hby d10_0) rfl rfl ?_
          show Steps p.tables e below (s₁.setTop (mkF m 1 #[.val (.ref a1), .val (.ref a2), .unset, .unset] [(.ref a1)])) _
          refine st1.trans ?_
          show Steps p.tables e below (T1.setTop (mkF m 4 #[.val (.ref a1), .val (.ref a2), .unset, .unset] [(.int (0 : Int32))])) _
          refine XS.aloadN X1.here hx rfl (hb hby d10_4) rfl rfl ?_
          show Steps p.tables e below (T1.setTop (mkF m 5 #[.val (.ref a1), .val (.ref a2), .unset, .unset] [(.ref a2), (.int (0 : Int32))])) _
          refine st2.trans ?_
          show Steps p.tables e below (T2.setTop (mkF m 8 #[.val (.ref a1), .val (.ref a2), .unset, .unset] [(.int (0 : Int32)), (.int (0 : Int32))])) _
          refine st3 _ ?_
          show Steps p.tables e below (T3.setTop (mkF m 11 #[.val (.ref a1), .val (.ref a2), .unset, .unset] [(.int (0 : Int32))])) _
          refine XS.istoreN X3.here hx rfl (hb hby d10_11) rfl (l' := #[.val (.ref a1), .val (.ref a2), .val (.int (0 : Int32)), .unset]) rfl ?_
          show Steps p.tables e below (T3.setTop (mkF m 12 #[.val (.ref a1), .val (.ref a2), .val (.int (0 : Int32)), .unset] [])) _
          refine XS.iconst X3.here hx rfl (hb hby d10_12) ?_
          show Steps p.tables e below (T3.setTop (mkF m 13 #[.val (.ref a1), .val (.ref a2), .val (.int (0 : Int32)), .unset] [(.int (0 : Int32))])) _
          refine XS.istoreN X3.here hx rfl (hb hby d10_13) rfl (l' := #[.val (.ref a1), .val (.ref a2), .val (.int (0 : Int32)), .val (.int (0 : Int32))]) rfl ?_
          show Steps p.tables e below (T3.setTop (mkF m 14 #[.val (.ref a1), .val (.ref a2), .val (.int (0 : Int32)), .val (.int (0 : Int32))] [])) _
          refine XS.iloadN X3.here hx rfl (hb hby d10_14) rfl ?_
          show Steps p.tables e below (T3.setTop (mkF m 15 #[.val (.ref a1), .val (.ref a2), .val (.int (0 : Int32)), .val (.int (0 : Int32))] [(.int (0 : Int32))])) _
          refine XS.iloadN X3.here hx rfl (hb hby d10_15) rfl ?_
          show Steps p.tables e below (T3.setTop (mkF m 16 #[.val (.ref a1), .val (.ref a2), .val (.int (0 : Int32)), .val (.int (0 : Int32))] [(.int (0 : Int32)), (.int (0 : Int32))])) _
          refine XS.icmpYes X3.here hx rfl (pc0 := 16) (pc' := 58) rfl (hb hby d10_16) rfl (by decide) (by decide) (by decide) ?_
          show Steps p.tables e below (T3.setTop (mkF m 58 #[.val (.ref a1), .val (.ref a2), .val (.int (0 : Int32)), .val (.int (0 : Int32))] [])) _
          refine XS.aloadN X3.here hx rfl (hb hby d10_58) rfl rfl ?_
          show Steps p.tables e below (T3.setTop (mkF m 59 #[.val (.ref a1), .val (.ref a2), .val (.int (0 : Int32)), .val (.int (0 : Int32))] [(.ref a1)])) _
          refine st4.trans ?_
          show Steps p.tables e below (T4.setTop (mkF m 62 #[.val (.ref a1), .val (.ref a2), .val (.int (0 : Int32)), .val (.int (0 : Int32))] [(.int (0 : Int32))])) _
          refine XS.aloadN X4.here hx rfl (hb hby d10_62) rfl rfl ?_
          show Steps p.tables e below (T4.setTop (mkF m 63 #[.val (.ref a1), .val (.ref a2), .val (.int (0 : Int32)), .val (.int (0 : Int32))] [(.ref a2), (.int (0 : Int32))])) _
          refine st5.trans ?_
          show Steps p.tables e below (T5.setTop (mkF m 66 #[.val (.ref a1), .val (.ref a2), .val (.int (0 : Int32)), .val (.int (0 : Int32))] [(.int (0 : Int32)), (.int (0 : Int32))])) _
          refine st6 _ ?_
          show Steps p.tables e below (T6.setTop (mkF m 69 #[.val (.ref a1), .val (.ref a2), .val (.int (0 : Int32)), .val (.int (0 : Int32))] [(.int (own_ic (0 : Int32) (0 : Int32)))])) _
          exact retOut X6 hx Bd.returns rfl (Or.inl ⟨rfl, Or.inl rfl, _, rfl⟩) (hb hby d10_69) hr
        · show Qcmp Z a1 a2 cc1 tt1 k01 ll1 vv1 (0 : Int32) x1 y1 cc2 tt2 k02 ll2 vv2 (0 : Int32) x2 y2 G1 fv h0 n0 _ T6.heap _
          rw [eh6]
          exact ⟨N6, rfl, (by unfold own_cmp; rw [if_neg (fun q => (by decide : ¬ (0 : Int32) < own_mn (0 : Int32) (0 : Int32)) q.1), if_neg (fun q => (by decide : ¬ (1 : Int32) < own_mn (0 : Int32) (0 : Int32)) q.1)])⟩
    · skip
      obtain ⟨cq7, kq7, q7a, q7b, q7c⟩ := isOf hZ e0 hE1
      obtain ⟨_, _, ⟨T7, L7, k7, n7⟩, -, X7, ⟨Lc7, hQ7, l7, y7, z7⟩, st7⟩ := X0.virtualBack hx (y := (⟨"java/lang/String", "length", "()I"⟩ : MethodName)) (z := (⟨"java/lang/String", "length", "()I"⟩ : MethodName)) hown (mvT hZ (own_k hw 49 rfl)) (mvT hZ (own_k hw 50 rfl)) (notFace_of_selects (args := #[]) (mvT hZ (own_k hw 52 rfl))) (mvT hZ (own_k hw 52 rfl)) (mvT hZ (own_k hw 51 rfl)) (by decide) (backOf (W := 0) (rmLen l Z a0 hw [] a1 cc1 tt1 k01 ll1 vv1 (0 : Int32) x1 y1 G1 h0 n0 Z0 hS (hG) hO hE1 hFc1 hFv1 hVv1 (hR1)) hZ (own_k hw 53 rfl) (own_k hw 7 rfl) (by decide) (by decide)) q7a q7c (g := (mkF m 1 #[.val (.ref a1), .val (.ref a2), .unset, .unset] [(.ref a1)])) rfl (by rw [hml]; rfl) (Steps.refl _) (argsL := []) (rest := []) (lenOf own_pd_16 rfl) rfl (by show 2 * 0 + _ ≤ _; exact Nat.le_of_eq rfl) (hb hby d10_1) (fun _ _ => ⟨rfl, e0, (by decide : 0 + 0 ≤ _), (by decide : 0 + 0 ≤ _)⟩)
      dsimp only [Pt.U, Pt.locs, Pt.cells, Pt.slots] at X7 l7 y7 z7 st7 hQ7
      subst l7
      subst y7 z7
      obtain ⟨Nq7, eh7, hv7⟩ := hQ7
      have N7 := Fr.app N0 Nq7
      subst hv7
      obtain ⟨cq8, kq8, q8a, q8b, q8c⟩ := isOf hZ eh7 hE2
      obtain ⟨_, _, ⟨T8, L8, k8, n8⟩, -, X8, ⟨Lc8, hQ8, l8, y8, z8⟩, st8⟩ := X7.virtualBack hx (y := (⟨"java/lang/String", "length", "()I"⟩ : MethodName)) (z := (⟨"java/lang/String", "length", "()I"⟩ : MethodName)) hown (mvT hZ (own_k hw 49 rfl)) (mvT hZ (own_k hw 50 rfl)) (notFace_of_selects (args := #[]) (mvT hZ (own_k hw 52 rfl))) (mvT hZ (own_k hw 52 rfl)) (mvT hZ (own_k hw 51 rfl)) (by decide) (backOf (W := 1) (rmLen l Z a0 hw [] a2 cc2 tt2 k02 ll2 vv2 (1 : Int32) x2 y2 G1 h0 n0 Z0 hS (hG) hO hE2 hFc2 hFv2 hVv2 (hR2)) hZ (own_k hw 53 rfl) (own_k hw 7 rfl) (by decide) (by decide)) q8a q8c (g := (mkF m 5 #[.val (.ref a1), .val (.ref a2), .unset, .unset] [(.ref a2), (.int (0 : Int32))])) rfl (by rw [hml]; rfl) (Steps.refl _) (argsL := []) (rest := [(.int (0 : Int32))]) (lenOf own_pd_16 rfl) rfl (by show 2 * 0 + _ ≤ _; exact Nat.le_of_eq rfl) (hb hby d10_5) (fun _ _ => ⟨rfl, eh7, (by decide : 0 + 0 ≤ _), (by decide : 0 + 0 ≤ _)⟩)
      dsimp only [Pt.U, Pt.locs, Pt.cells, Pt.slots] at X8 l8 y8 z8 st8 hQ8
      subst l8
      subst y8 z8
      obtain ⟨Nq8, eh8, hv8⟩ := hQ8
      have N8 := Fr.app N7 Nq8
      subst hv8
      obtain ⟨_, _, ⟨T9, L9, k9, n9⟩, -, X9, ⟨Lc9, hQ9, l9, y9, z9⟩, st9⟩ := Jvm.LawKit.callS X8 hx (y := (⟨"java/lang/Math", "min", "(II)I"⟩ : MethodName)) hown (mvT hZ (own_k hw 59 rfl)) (mvT hZ (own_k hw 39 rfl)) (mvT hZ (own_k hw 40 rfl)) (mvT hZ (own_k hw 41 rfl)) (by decide) (backOf (W := 0) (rmMo l Z a0 hw [] (0 : Int32) (1 : Int32) h0 n0 Z0 ) hZ (own_k hw 41 rfl) (own_k hw 40 rfl) (by decide) (by decide)) (g := (mkF m 8 #[.val (.ref a1), .val (.ref a2), .unset, .unset] [(.int (1 : Int32)), (.int (0 : Int32))])) rfl (by rw [hml]; rfl) (argsL := [(.int (0 : Int32)), (.int (1 : Int32))]) (rest := []) (lenOf own_pd_17 rfl) rfl (by show 2 * 0 + _ ≤ _; exact Nat.le_of_eq rfl) (hb hby d10_8) (fun _ _ => ⟨rfl, eh8, (by decide : 0 + 0 ≤ _), (by decide : 0 + 0 ≤ _)⟩)
      dsimp only [Pt.U, Pt.locs, Pt.cells, Pt.slots] at X9 l9 y9 z9 st9 hQ9
      subst l9
      subst y9 z9
      obtain ⟨Nq9, eh9, hv9⟩ := hQ9
      have N9 := Fr.app N8 Nq9
      rcases hv9 with ⟨hv9, hd9_0⟩ | ⟨hv9, hd9_0⟩
      · subst hv9
        exact absurd hd9_0 (by decide)
      · subst hv9
        obtain ⟨cq10, kq10, q10a, q10b, q10c⟩ := isOf hZ eh9 hE1
        obtain ⟨_, _, ⟨T10, L10, k10, n10⟩, -, X10, ⟨Lc10, hQ10, l10, y10, z10⟩, st10⟩ := X9.virtualBack hx (y := (⟨"java/lang/String", "length", "()I"⟩ : MethodName)) (z := (⟨"java/lang/String", "length", "()I"⟩ : MethodName)) hown (mvT hZ (own_k hw 49 rfl)) (mvT hZ (own_k hw 50 rfl)) (notFace_of_selects (args := #[]) (mvT hZ (own_k hw 52 rfl))) (mvT hZ (own_k hw 52 rfl)) (mvT hZ (own_k hw 51 rfl)) (by decide) (backOf (W := 0) (rmLen l Z a0 hw [] a1 cc1 tt1 k01 ll1 vv1 (0 : Int32) x1 y1 G1 h0 n0 Z0 hS (hG) hO hE1 hFc1 hFv1 hVv1 (hR1)) hZ (own_k hw 53 rfl) (own_k hw 7 rfl) (by decide) (by decide)) q10a q10c (g := (mkF m 59 #[.val (.ref a1), .val (.ref a2), .val (.int (0 : Int32)), .val (.int (0 : Int32))] [(.ref a1)])) rfl (by rw [hml]; rfl) (Steps.refl _) (argsL := []) (rest := []) (lenOf own_pd_16 rfl) rfl (by show 2 * 0 + _ ≤ _; exact Nat.le_of_eq rfl) (hb hby d10_59) (fun _ _ => ⟨rfl, eh9, (by decide : 0 + 0 ≤ _), (by decide : 0 + 0 ≤ _)⟩)
        dsimp only [Pt.U, Pt.locs, Pt.cells, Pt.slots] at X10 l10 y10 z10 st10 hQ10
        subst l10
        subst y10 z10
        obtain ⟨Nq10, eh10, hv10⟩ := hQ10
        have N10 := Fr.app N9 Nq10
        subst hv10
        obtain ⟨cq11, kq11, q11a, q11b, q11c⟩ := isOf hZ eh10 hE2
        obtain ⟨_, _, ⟨T11, L11, k11, n11⟩, -, X11, ⟨Lc11, hQ11, l11, y11, z11⟩, st11⟩ := X10.virtualBack hx (y := (⟨"java/lang/String", "length", "()I"⟩ : MethodName)) (z := (⟨"java/lang/String", "length", "()I"⟩ : MethodName)) hown (mvT hZ (own_k hw 49 rfl)) (mvT hZ (own_k hw 50 rfl)) (notFace_of_selects (args := #[]) (mvT hZ (own_k hw 52 rfl))) (mvT hZ (own_k hw 52 rfl)) (mvT hZ (own_k hw 51 rfl)) (by decide) (backOf (W := 1) (rmLen l Z a0 hw [] a2 cc2 tt2 k02 ll2 vv2 (1 : Int32) x2 y2 G1 h0 n0 Z0 hS (hG) hO hE2 hFc2 hFv2 hVv2 (hR2)) hZ (own_k hw 53 rfl) (own_k hw 7 rfl) (by decide) (by decide)) q11a q11c (g := (mkF m 63 #[.val (.ref a1), .val (.ref a2), .val (.int (0 : Int32)), .val (.int (0 : Int32))] [(.ref a2), (.int (0 : Int32))])) rfl (by rw [hml]; rfl) (Steps.refl _) (argsL := []) (rest := [(.int (0 : Int32))]) (lenOf own_pd_16 rfl) rfl (by show 2 * 0 + _ ≤ _; exact Nat.le_of_eq rfl) (hb hby d10_63) (fun _ _ => ⟨rfl, eh10, (by decide : 0 + 0 ≤ _), (by decide : 0 + 0 ≤ _)⟩)
        dsimp only [Pt.U, Pt.locs, Pt.cells, Pt.slots] at X11 l11 y11 z11 st11 hQ11
        subst l11
        subst y11 z11
        obtain ⟨Nq11, eh11, hv11⟩ := hQ11
        have N11 := Fr.app N10 Nq11
        subst hv11
        obtain ⟨_, _, ⟨T12, L12, k12, n12⟩, -, X12, ⟨Lc12, hQ12, l12, y12, z12⟩, st12⟩ := Jvm.LawKit.callS X11 hx (y := (⟨"java/lang/Integer", "compare", "(II)I"⟩ : MethodName)) hown (mvT hZ (own_k hw 60 rfl)) (mvT hZ (own_k hw 61 rfl)) (mvT hZ (own_k hw 62 rfl)) (mvT hZ (own_k hw 63 rfl)) (by decide) (backOf (W := 0) (rmIc l Z a0 hw [] (0 : Int32) (1 : Int32) h0 n0 Z0 ) hZ (own_k hw 63 rfl) (own_k hw 62 rfl) (by decide) (by decide)) (g := (mkF m 66 #[.val (.ref a1), .val (.ref a2), .val (.int (0 : Int32)), .val (.int (0 : Int32))] [(.int (1 : Int32)), (.int (0 : Int32))])) rfl (by rw [hml]; rfl) (argsL := [(.int (0 : Int32)), (.int (1 : Int32))]) (rest := []) (lenOf own_pd_17 rfl) rfl (by show 2 * 0 + _ ≤ _; exact Nat.le_of_eq rfl) (hb hby d10_66) (fun _ _ => ⟨rfl, eh11, (by decide : 0 + 0 ≤ _), (by decide : 0 + 0 ≤ _)⟩)
        dsimp only [Pt.U, Pt.locs, Pt.cells, Pt.slots] at X12 l12 y12 z12 st12 hQ12
        subst l12
        subst y12 z12
        obtain ⟨Nq12, eh12, hv12⟩ := hQ12
        have N12 := Fr.app N11 Nq12
        subst hv12
        obtain ⟨fs, hr, hrun, hended, hW, hsame⟩ := X12.leave (v := (some (.int (own_ic (0 : Int32) (1 : Int32))))) (fun h => by rw [Bd.returns] at h; cases h)
        refine ⟨_, _, pre0 _ ?_, hrun, hended, _, _, rfl, ?_, ⟨_, rfl⟩, hW, hsame.mono (by decide) (by decide)⟩
        · show Steps p.tables e below (s₁.setTop (mkF m 0 #[.val (.ref a1), .val (.ref a2), .unset, .unset] [])) _
          refine XS.aloadN X0.here hx rfl (hb hby d10_0) rfl rfl ?_
          show Steps p.tables e below (s₁.setTop (mkF m 1 #[.val (.ref a1), .val (.ref a2), .unset, .unset] [(.ref a1)])) _
          refine st7.trans ?_
          show Steps p.tables e below (T7.setTop (mkF m 4 #[.val (.ref a1), .val (.ref a2), .unset, .unset] [(.int (0 : Int32))])) _
          refine XS.aloadN X7.here hx rfl (hb hby d10_4) rfl rfl ?_
          show Steps p.tables e below (T7.setTop (mkF m 5 #[.val (.ref a1), .val (.ref a2), .unset, .unset] [(.ref a2), (.int (0 : Int32))])) _
          refine st8.trans ?_
          show Steps p.tables e below (T8.setTop (mkF m 8 #[.val (.ref a1), .val (.ref a2), .unset, .unset] [(.int (1 : Int32)), (.int (0 : Int32))])) _
          refine st9 _ ?_
          show Steps p.tables e below (T9.setTop (mkF m 11 #[.val (.ref a1), .val (.ref a2), .unset, .unset] [(.int (0 : Int32))])) _
          refine XS.istoreN X9.here hx rfl (hb hby d10_11) rfl (l' := #[.val (.ref a1), .val (.ref a2), .val (.int (0 : Int32)), .unset]) rfl ?_
          show Steps p.tables e below (T9.setTop (mkF m 12 #[.val (.ref a1), .val (.ref a2), .val (.int (0 : Int32)), .unset] [])) _
          refine XS.iconst X9.here hx rfl (hb hby d10_12) ?_
          show Steps p.tables e below (T9.setTop (mkF m 13 #[.val (.ref a1), .val (.ref a2), .val (.int (0 : Int32)), .unset] [(.int (0 : Int32))])) _
          refine XS.istoreN X9.here hx rfl (hb hby d10_13) rfl (l' := #[.val (.ref a1), .val (.ref a2), .val (.int (0 : Int32)), .val (.int (0 : Int32))]) rfl ?_
          show Steps p.tables e below (T9.setTop (mkF m 14 #[.val (.ref a1), .val (.ref a2), .val (.int (0 : Int32)), .val (.int (0 : Int32))] [])) _
          refine XS.iloadN X9.here hx rfl (hb hby d10_14) rfl ?_
          show Steps p.tables e below (T9.setTop (mkF m 15 #[.val (.ref a1), .val (.ref a2), .val (.int (0 : Int32)), .val (.int (0 : Int32))] [(.int (0 : Int32))])) _
          refine XS.iloadN X9.here hx rfl (hb hby d10_15) rfl ?_
          show Steps p.tables e below (T9.setTop (mkF m 16 #[.val (.ref a1), .val (.ref a2), .val (.int (0 : Int32)), .val (.int (0 : Int32))] [(.int (0 : Int32)), (.int (0 : Int32))])) _
          refine XS.icmpYes X9.here hx rfl (pc0 := 16) (pc' := 58) rfl (hb hby d10_16) rfl (by decide) (by decide) (by decide) ?_
          show Steps p.tables e below (T9.setTop (mkF m 58 #[.val (.ref a1), .val (.ref a2), .val (.int (0 : Int32)), .val (.int (0 : Int32))] [])) _
          refine XS.aloadN X9.here hx rfl (hb hby d10_58) rfl rfl ?_
          show Steps p.tables e below (T9.setTop (mkF m 59 #[.val (.ref a1), .val (.ref a2), .val (.int (0 : Int32)), .val (.int (0 : Int32))] [(.ref a1)])) _
          refine st10.trans ?_
          show Steps p.tables e below (T10.setTop (mkF m 62 #[.val (.ref a1), .val (.ref a2), .val (.int (0 : Int32)), .val (.int (0 : Int32))] [(.int (0 : Int32))])) _
          refine XS.aloadN X10.here hx rfl (hb hby d10_62) rfl rfl ?_
          show Steps p.tables e below (T10.setTop (mkF m 63 #[.val (.ref a1), .val (.ref a2), .val (.int (0 : Int32)), .val (.int (0 : Int32))] [(.ref a2), (.int (0 : Int32))])) _
          refine st11.trans ?_
          show Steps p.tables e below (T11.setTop (mkF m 66 #[.val (.ref a1), .val (.ref a2), .val (.int (0 : Int32)), .val (.int (0 : Int32))] [(.int (1 : Int32)), (.int (0 : Int32))])) _
          refine st12 _ ?_
          show Steps p.tables e below (T12.setTop (mkF m 69 #[.val (.ref a1), .val (.ref a2), .val (.int (0 : Int32)), .val (.int (0 : Int32))] [(.int (own_ic (0 : Int32) (1 : Int32)))])) _
          exact retOut X12 hx Bd.returns rfl (Or.inl ⟨rfl, Or.inl rfl, _, rfl⟩) (hb hby d10_69) hr
        · show Qcmp Z a1 a2 cc1 tt1 k01 ll1 vv1 (0 : Int32) x1 y1 cc2 tt2 k02 ll2 vv2 (1 : Int32) x2 y2 G1 fv h0 n0 _ T12.heap _
          rw [eh12]
          exact ⟨N12, rfl, (by unfold own_cmp; rw [if_neg (fun q => (by decide : ¬ (0 : Int32) < own_mn (0 : Int32) (1 : Int32)) q.1), if_neg (fun q => (by decide : ¬ (1 : Int32) < own_mn (0 : Int32) (1 : Int32)) q.1)])⟩
    · skip
      obtain ⟨cq13, kq13, q13a, q13b, q13c⟩ := isOf hZ e0 hE1
      obtain ⟨_, _, ⟨T13, L13, k13, n13⟩, -, X13, ⟨Lc13, hQ13, l13, y13, z13⟩, st13⟩ := X0.virtualBack hx (y := (⟨"java/lang/String", "length", "()I"⟩ : MethodName)) (z := (⟨"java/lang/String", "length", "()I"⟩ : MethodName)) hown (mvT hZ (own_k hw 49 rfl)) (mvT hZ (own_k hw 50 rfl)) (notFace_of_selects (args := #[]) (mvT hZ (own_k hw 52 rfl))) (mvT hZ (own_k hw 52 rfl)) (mvT hZ (own_k hw 51 rfl)) (by decide) (backOf (W := 0) (rmLen l Z a0 hw [] a1 cc1 tt1 k01 ll1 vv1 (0 : Int32) x1 y1 G1 h0 n0 Z0 hS (hG) hO hE1 hFc1 hFv1 hVv1 (hR1)) hZ (own_k hw 53 rfl) (own_k hw 7 rfl) (by decide) (by decide)) q13a q13c (g := (mkF m 1 #[.val (.ref a1), .val (.ref a2), .unset, .unset] [(.ref a1)])) rfl (by rw [hml]; rfl) (Steps.refl _) (argsL := []) (rest := []) (lenOf own_pd_16 rfl) rfl (by show 2 * 0 + _ ≤ _; exact Nat.le_of_eq rfl) (hb hby d10_1) (fun _ _ => ⟨rfl, e0, (by decide : 0 + 0 ≤ _), (by decide : 0 + 0 ≤ _)⟩)
      dsimp only [Pt.U, Pt.locs, Pt.cells, Pt.slots] at X13 l13 y13 z13 st13 hQ13
      subst l13
      subst y13 z13
      obtain ⟨Nq13, eh13, hv13⟩ := hQ13
      have N13 := Fr.app N0 Nq13
      subst hv13
      obtain ⟨cq14, kq14, q14a, q14b, q14c⟩ := isOf hZ eh13 hE2
      obtain ⟨_, _, ⟨T14, L14, k14, n14⟩, -, X14, ⟨Lc14, hQ14, l14, y14, z14⟩, st14⟩ := X13.virtualBack hx (y := (⟨"java/lang/String", "length", "()I"⟩ : MethodName)) (z := (⟨"java/lang/String", "length", "()I"⟩ : MethodName)) hown (mvT hZ (own_k hw 49 rfl)) (mvT hZ (own_k hw 50 rfl)) (notFace_of_selects (args := #[]) (mvT hZ (own_k hw 52 rfl))) (mvT hZ (own_k hw 52 rfl)) (mvT hZ (own_k hw 51 rfl)) (by decide) (backOf (W := 1) (rmLen l Z a0 hw [] a2 cc2 tt2 k02 ll2 vv2 (2 : Int32) x2 y2 G1 h0 n0 Z0 hS (hG) hO hE2 hFc2 hFv2 hVv2 (hR2)) hZ (own_k hw 53 rfl) (own_k hw 7 rfl) (by decide) (by decide)) q14a q14c (g := (mkF m 5 #[.val (.ref a1), .val (.ref a2), .unset, .unset] [(.ref a2), (.int (0 : Int32))])) rfl (by rw [hml]; rfl) (Steps.refl _) (argsL := []) (rest := [(.int (0 : Int32))]) (lenOf own_pd_16 rfl) rfl (by show 2 * 0 + _ ≤ _; exact Nat.le_of_eq rfl) (hb hby d10_5) (fun _ _ => ⟨rfl, eh13, (by decide : 0 + 0 ≤ _), (by decide : 0 + 0 ≤ _)⟩)
      dsimp only [Pt.U, Pt.locs, Pt.cells, Pt.slots] at X14 l14 y14 z14 st14 hQ14
      subst l14
      subst y14 z14
      obtain ⟨Nq14, eh14, hv14⟩ := hQ14
      have N14 := Fr.app N13 Nq14
      subst hv14
      obtain ⟨_, _, ⟨T15, L15, k15, n15⟩, -, X15, ⟨Lc15, hQ15, l15, y15, z15⟩, st15⟩ := Jvm.LawKit.callS X14 hx (y := (⟨"java/lang/Math", "min", "(II)I"⟩ : MethodName)) hown (mvT hZ (own_k hw 59 rfl)) (mvT hZ (own_k hw 39 rfl)) (mvT hZ (own_k hw 40 rfl)) (mvT hZ (own_k hw 41 rfl)) (by decide) (backOf (W := 0) (rmMo l Z a0 hw [] (0 : Int32) (2 : Int32) h0 n0 Z0 ) hZ (own_k hw 41 rfl) (own_k hw 40 rfl) (by decide) (by decide)) (g := (mkF m 8 #[.val (.ref a1), .val (.ref a2), .unset, .unset] [(.int (2 : Int32)), (.int (0 : Int32))])) rfl (by rw [hml]; rfl) (argsL := [(.int (0 : Int32)), (.int (2 : Int32))]) (rest := []) (lenOf own_pd_17 rfl) rfl (by show 2 * 0 + _ ≤ _; exact Nat.le_of_eq rfl) (hb hby d10_8) (fun _ _ => ⟨rfl, eh14, (by decide : 0 + 0 ≤ _), (by decide : 0 + 0 ≤ _)⟩)
      dsimp only [Pt.U, Pt.locs, Pt.cells, Pt.slots] at X15 l15 y15 z15 st15 hQ15
      subst l15
      subst y15 z15
      obtain ⟨Nq15, eh15, hv15⟩ := hQ15
      have N15 := Fr.app N14 Nq15
      rcases hv15 with ⟨hv15, hd15_0⟩ | ⟨hv15, hd15_0⟩
      · subst hv15
        exact absurd hd15_0 (by decide)
      · subst hv15
        obtain ⟨cq16, kq16, q16a, q16b, q16c⟩ := isOf hZ eh15 hE1
        obtain ⟨_, _, ⟨T16, L16, k16, n16⟩, -, X16, ⟨Lc16, hQ16, l16, y16, z16⟩, st16⟩ := X15.virtualBack hx (y := (⟨"java/lang/String", "length", "()I"⟩ : MethodName)) (z := (⟨"java/lang/String", "length", "()I"⟩ : MethodName)) hown (mvT hZ (own_k hw 49 rfl)) (mvT hZ (own_k hw 50 rfl)) (notFace_of_selects (args := #[]) (mvT hZ (own_k hw 52 rfl))) (mvT hZ (own_k hw 52 rfl)) (mvT hZ (own_k hw 51 rfl)) (by decide) (backOf (W := 0) (rmLen l Z a0 hw [] a1 cc1 tt1 k01 ll1 vv1 (0 : Int32) x1 y1 G1 h0 n0 Z0 hS (hG) hO hE1 hFc1 hFv1 hVv1 (hR1)) hZ (own_k hw 53 rfl) (own_k hw 7 rfl) (by decide) (by decide)) q16a q16c (g := (mkF m 59 #[.val (.ref a1), .val (.ref a2), .val (.int (0 : Int32)), .val (.int (0 : Int32))] [(.ref a1)])) rfl (by rw [hml]; rfl) (Steps.refl _) (argsL := []) (rest := []) (lenOf own_pd_16 rfl) rfl (by show 2 * 0 + _ ≤ _; exact Nat.le_of_eq rfl) (hb hby d10_59) (fun _ _ => ⟨rfl, eh15, (by decide : 0 + 0 ≤ _), (by decide : 0 + 0 ≤ _)⟩)
        dsimp only [Pt.U, Pt.locs, Pt.cells, Pt.slots] at X16 l16 y16 z16 st16 hQ16
        subst l16
        subst y16 z16
        obtain ⟨Nq16, eh16, hv16⟩ := hQ16
        have N16 := Fr.app N15 Nq16
        subst hv16
        obtain ⟨cq17, kq17, q17a, q17b, q17c⟩ := isOf hZ eh16 hE2
        obtain ⟨_, _, ⟨T17, L17, k17, n17⟩, -, X17, ⟨Lc17, hQ17, l17, y17, z17⟩, st17⟩ := X16.virtualBack hx (y := (⟨"java/lang/String", "length", "()I"⟩ : MethodName)) (z := (⟨"java/lang/String", "length", "()I"⟩ : MethodName)) hown (mvT hZ (own_k hw 49 rfl)) (mvT hZ (own_k hw 50 rfl)) (notFace_of_selects (args := #[]) (mvT hZ (own_k hw 52 rfl))) (mvT hZ (own_k hw 52 rfl)) (mvT hZ (own_k hw 51 rfl)) (by decide) (backOf (W := 1) (rmLen l Z a0 hw [] a2 cc2 tt2 k02 ll2 vv2 (2 : Int32) x2 y2 G1 h0 n0 Z0 hS (hG) hO hE2 hFc2 hFv2 hVv2 (hR2)) hZ (own_k hw 53 rfl) (own_k hw 7 rfl) (by decide) (by decide)) q17a q17c (g := (mkF m 63 #[.val (.ref a1), .val (.ref a2), .val (.int (0 : Int32)), .val (.int (0 : Int32))] [(.ref a2), (.int (0 : Int32))])) rfl (by rw [hml]; rfl) (Steps.refl _) (argsL := []) (rest := [(.int (0 : Int32))]) (lenOf own_pd_16 rfl) rfl (by show 2 * 0 + _ ≤ _; exact Nat.le_of_eq rfl) (hb hby d10_63) (fun _ _ => ⟨rfl, eh16, (by decide : 0 + 0 ≤ _), (by decide : 0 + 0 ≤ _)⟩)
        dsimp only [Pt.U, Pt.locs, Pt.cells, Pt.slots] at X17 l17 y17 z17 st17 hQ17
        subst l17
        subst y17 z17
        obtain ⟨Nq17, eh17, hv17⟩ := hQ17
        have N17 := Fr.app N16 Nq17
        subst hv17
        obtain ⟨_, _, ⟨T18, L18, k18, n18⟩, -, X18, ⟨Lc18, hQ18, l18, y18, z18⟩, st18⟩ := Jvm.LawKit.callS X17 hx (y := (⟨"java/lang/Integer", "compare", "(II)I"⟩ : MethodName)) hown (mvT hZ (own_k hw 60 rfl)) (mvT hZ (own_k hw 61 rfl)) (mvT hZ (own_k hw 62 rfl)) (mvT hZ (own_k hw 63 rfl)) (by decide) (backOf (W := 0) (rmIc l Z a0 hw [] (0 : Int32) (2 : Int32) h0 n0 Z0 ) hZ (own_k hw 63 rfl) (own_k hw 62 rfl) (by decide) (by decide)) (g := (mkF m 66 #[.val (.ref a1), .val (.ref a2), .val (.int (0 : Int32)), .val (.int (0 : Int32))] [(.int (2 : Int32)), (.int (0 : Int32))])) rfl (by rw [hml]; rfl) (argsL := [(.int (0 : Int32)), (.int (2 : Int32))]) (rest := []) (lenOf own_pd_17 rfl) rfl (by show 2 * 0 + _ ≤ _; exact Nat.le_of_eq rfl) (hb hby d10_66) (fun _ _ => ⟨rfl, eh17, (by decide : 0 + 0 ≤ _), (by decide : 0 + 0 ≤ _)⟩)
        dsimp only [Pt.U, Pt.locs, Pt.cells, Pt.slots] at X18 l18 y18 z18 st18 hQ18
        subst l18
        subst y18 z18
        obtain ⟨Nq18, eh18, hv18⟩ := hQ18
        have N18 := Fr.app N17 Nq18
        subst hv18
        obtain ⟨fs, hr, hrun, hended, hW, hsame⟩ := X18.leave (v := (some (.int (own_ic (0 : Int32) (2 : Int32))))) (fun h => by rw [Bd.returns] at h; cases h)
        refine ⟨_, _, pre0 _ ?_, hrun, hended, _, _, rfl, ?_, ⟨_, rfl⟩, hW, hsame.mono (by decide) (by decide)⟩
        · show Steps p.tables e below (s₁.setTop (mkF m 0 #[.val (.ref a1), .val (.ref a2), .unset, .unset] [])) _
          refine XS.aloadN X0.here hx rfl (hb hby d10_0) rfl rfl ?_
          show Steps p.tables e below (s₁.setTop (mkF m 1 #[.val (.ref a1), .val (.ref a2), .unset, .unset] [(.ref a1)])) _
          refine st13.trans ?_
          show Steps p.tables e below (T13.setTop (mkF m 4 #[.val (.ref a1), .val (.ref a2), .unset, .unset] [(.int (0 : Int32))])) _
          refine XS.aloadN X13.here hx rfl (hb hby d10_4) rfl rfl ?_
          show Steps p.tables e below (T13.setTop (mkF m 5 #[.val (.ref a1), .val (.ref a2), .unset, .unset] [(.ref a2), (.int (0 : Int32))])) _
          refine st14.trans ?_
          show Steps p.tables e below (T14.setTop (mkF m 8 #[.val (.ref a1), .val (.ref a2), .unset, .unset] [(.int (2 : Int32)), (.int (0 : Int32))])) _
          refine st15 _ ?_
          show Steps p.tables e below (T15.setTop (mkF m 11 #[.val (.ref a1), .val (.ref a2), .unset, .unset] [(.int (0 : Int32))])) _
          refine XS.istoreN X15.here hx rfl (hb hby d10_11) rfl (l' := #[.val (.ref a1), .val (.ref a2), .val (.int (0 : Int32)), .unset]) rfl ?_
          show Steps p.tables e below (T15.setTop (mkF m 12 #[.val (.ref a1), .val (.ref a2), .val (.int (0 : Int32)), .unset] [])) _
          refine XS.iconst X15.here hx rfl (hb hby d10_12) ?_
          show Steps p.tables e below (T15.setTop (mkF m 13 #[.val (.ref a1), .val (.ref a2), .val (.int (0 : Int32)), .unset] [(.int (0 : Int32))])) _
          refine XS.istoreN X15.here hx rfl (hb hby d10_13) rfl (l' := #[.val (.ref a1), .val (.ref a2), .val (.int (0 : Int32)), .val (.int (0 : Int32))]) rfl ?_
          show Steps p.tables e below (T15.setTop (mkF m 14 #[.val (.ref a1), .val (.ref a2), .val (.int (0 : Int32)), .val (.int (0 : Int32))] [])) _
          refine XS.iloadN X15.here hx rfl (hb hby d10_14) rfl ?_
          show Steps p.tables e below (T15.setTop (mkF m 15 #[.val (.ref a1), .val (.ref a2), .val (.int (0 : Int32)), .val (.int (0 : Int32))] [(.int (0 : Int32))])) _
          refine XS.iloadN X15.here hx rfl (hb hby d10_15) rfl ?_
          show Steps p.tables e below (T15.setTop (mkF m 16 #[.val (.ref a1), .val (.ref a2), .val (.int (0 : Int32)), .val (.int (0 : Int32))] [(.int (0 : Int32)), (.int (0 : Int32))])) _
          refine XS.icmpYes X15.here hx rfl (pc0 := 16) (pc' := 58) rfl (hb hby d10_16) rfl (by decide) (by decide) (by decide) ?_
          show Steps p.tables e below (T15.setTop (mkF m 58 #[.val (.ref a1), .val (.ref a2), .val (.int (0 : Int32)), .val (.int (0 : Int32))] [])) _
          refine XS.aloadN X15.here hx rfl (hb hby d10_58) rfl rfl ?_
          show Steps p.tables e below (T15.setTop (mkF m 59 #[.val (.ref a1), .val (.ref a2), .val (.int (0 : Int32)), .val (.int (0 : Int32))] [(.ref a1)])) _
          refine st16.trans ?_
          show Steps p.tables e below (T16.setTop (mkF m 62 #[.val (.ref a1), .val (.ref a2), .val (.int (0 : Int32)), .val (.int (0 : Int32))] [(.int (0 : Int32))])) _
          refine XS.aloadN X16.here hx rfl (hb hby d10_62) rfl rfl ?_
          show Steps p.tables e below (T16.setTop (mkF m 63 #[.val (.ref a1), .val (.ref a2), .val (.int (0 : Int32)), .val (.int (0 : Int32))] [(.ref a2), (.int (0 : Int32))])) _
          refine st17.trans ?_
          show Steps p.tables e below (T17.setTop (mkF m 66 #[.val (.ref a1), .val (.ref a2), .val (.int (0 : Int32)), .val (.int (0 : Int32))] [(.int (2 : Int32)), (.int (0 : Int32))])) _
          refine st18 _ ?_
          show Steps p.tables e below (T18.setTop (mkF m 69 #[.val (.ref a1), .val (.ref a2), .val (.int (0 : Int32)), .val (.int (0 : Int32))] [(.int (own_ic (0 : Int32) (2 : Int32)))])) _
          exact retOut X18 hx Bd.returns rfl (Or.inl ⟨rfl, Or.inl rfl, _, rfl⟩) (hb hby d10_69) hr
        · show Qcmp Z a1 a2 cc1 tt1 k01 ll1 vv1 (0 : Int32) x1 y1 cc2 tt2 k02 ll2 vv2 (2 : Int32) x2 y2 G1 fv h0 n0 _ T18.heap _
          rw [eh18]
          exact ⟨N18, rfl, (by unfold own_cmp; rw [if_neg (fun q => (by decide : ¬ (0 : Int32) < own_mn (0 : Int32) (2 : Int32)) q.1), if_neg (fun q => (by decide : ¬ (1 : Int32) < own_mn (0 : Int32) (2 : Int32)) q.1)])⟩
  · skip
    rcases own_RepN hR2 with rfl | rfl | rfl
    · skip
      obtain ⟨cq19, kq19, q19a, q19b, q19c⟩ := isOf hZ e0 hE1
      obtain ⟨_, _, ⟨T19, L19, k19, n19⟩, -, X19, ⟨Lc19, hQ19, l19, y19, z19⟩, st19⟩ := X0.virtualBack hx (y := (⟨"java/lang/String", "length", "()I"⟩ : MethodName)) (z := (⟨"java/lang/String", "length", "()I"⟩ : MethodName)) hown (mvT hZ (own_k hw 49 rfl)) (mvT hZ (own_k hw 50 rfl)) (notFace_of_selects (args := #[]) (mvT hZ (own_k hw 52 rfl))) (mvT hZ (own_k hw 52 rfl)) (mvT hZ (own_k hw 51 rfl)) (by decide) (backOf (W := 0) (rmLen l Z a0 hw [] a1 cc1 tt1 k01 ll1 vv1 (1 : Int32) x1 y1 G1 h0 n0 Z0 hS (hG) hO hE1 hFc1 hFv1 hVv1 (hR1)) hZ (own_k hw 53 rfl) (own_k hw 7 rfl) (by decide) (by decide)) q19a q19c (g := (mkF m 1 #[.val (.ref a1), .val (.ref a2), .unset, .unset] [(.ref a1)])) rfl (by rw [hml]; rfl) (Steps.refl _) (argsL := []) (rest := []) (lenOf own_pd_16 rfl) rfl (by show 2 * 0 + _ ≤ _; exact Nat.le_of_eq rfl) (hb hby d10_1) (fun _ _ => ⟨rfl, e0, (by decide : 0 + 0 ≤ _), (by decide : 0 + 0 ≤ _)⟩)
      dsimp only [Pt.U, Pt.locs, Pt.cells, Pt.slots] at X19 l19 y19 z19 st19 hQ19
      subst l19
      subst y19 z19
      obtain ⟨Nq19, eh19, hv19⟩ := hQ19
      have N19 := Fr.app N0 Nq19
      subst hv19
      obtain ⟨cq20, kq20, q20a, q20b, q20c⟩ := isOf hZ eh19 hE2
      obtain ⟨_, _, ⟨T20, L20, k20, n20⟩, -, X20, ⟨Lc20, hQ20, l20, y20, z20⟩, st20⟩ := X19.virtualBack hx (y := (⟨"java/lang/String", "length", "()I"⟩ : MethodName)) (z := (⟨"java/lang/String", "length", "()I"⟩ : MethodName)) hown (mvT hZ (own_k hw 49 rfl)) (mvT hZ (own_k hw 50 rfl)) (notFace_of_selects (args := #[]) (mvT hZ (own_k hw 52 rfl))) (mvT hZ (own_k hw 52 rfl)) (mvT hZ (own_k hw 51 rfl)) (by decide) (backOf (W := 1) (rmLen l Z a0 hw [] a2 cc2 tt2 k02 ll2 vv2 (0 : Int32) x2 y2 G1 h0 n0 Z0 hS (hG) hO hE2 hFc2 hFv2 hVv2 (hR2)) hZ (own_k hw 53 rfl) (own_k hw 7 rfl) (by decide) (by decide)) q20a q20c (g := (mkF m 5 #[.val (.ref a1), .val (.ref a2), .unset, .unset] [(.ref a2), (.int (1 : Int32))])) rfl (by rw [hml]; rfl) (Steps.refl _) (argsL := []) (rest := [(.int (1 : Int32))]) (lenOf own_pd_16 rfl) rfl (by show 2 * 0 + _ ≤ _; exact Nat.le_of_eq rfl) (hb hby d10_5) (fun _ _ => ⟨rfl, eh19, (by decide : 0 + 0 ≤ _), (by decide : 0 + 0 ≤ _)⟩)
      dsimp only [Pt.U, Pt.locs, Pt.cells, Pt.slots] at X20 l20 y20 z20 st20 hQ20
      subst l20
      subst y20 z20
      obtain ⟨Nq20, eh20, hv20⟩ := hQ20
      have N20 := Fr.app N19 Nq20
      subst hv20
      obtain ⟨_, _, ⟨T21, L21, k21, n21⟩, -, X21, ⟨Lc21, hQ21, l21, y21, z21⟩, st21⟩ := Jvm.LawKit.callS X20 hx (y := (⟨"java/lang/Math", "min", "(II)I"⟩ : MethodName)) hown (mvT hZ (own_k hw 59 rfl)) (mvT hZ (own_k hw 39 rfl)) (mvT hZ (own_k hw 40 rfl)) (mvT hZ (own_k hw 41 rfl)) (by decide) (backOf (W := 0) (rmMo l Z a0 hw [] (1 : Int32) (0 : Int32) h0 n0 Z0 ) hZ (own_k hw 41 rfl) (own_k hw 40 rfl) (by decide) (by decide)) (g := (mkF m 8 #[.val (.ref a1), .val (.ref a2), .unset, .unset] [(.int (0 : Int32)), (.int (1 : Int32))])) rfl (by rw [hml]; rfl) (argsL := [(.int (1 : Int32)), (.int (0 : Int32))]) (rest := []) (lenOf own_pd_17 rfl) rfl (by show 2 * 0 + _ ≤ _; exact Nat.le_of_eq rfl) (hb hby d10_8) (fun _ _ => ⟨rfl, eh20, (by decide : 0 + 0 ≤ _), (by decide : 0 + 0 ≤ _)⟩)
      dsimp only [Pt.U, Pt.locs, Pt.cells, Pt.slots] at X21 l21 y21 z21 st21 hQ21
      subst l21
      subst y21 z21
      obtain ⟨Nq21, eh21, hv21⟩ := hQ21
      have N21 := Fr.app N20 Nq21
      rcases hv21 with ⟨hv21, hd21_0⟩ | ⟨hv21, hd21_0⟩
      · subst hv21
        obtain ⟨cq22, kq22, q22a, q22b, q22c⟩ := isOf hZ eh21 hE1
        obtain ⟨_, _, ⟨T22, L22, k22, n22⟩, -, X22, ⟨Lc22, hQ22, l22, y22, z22⟩, st22⟩ := X21.virtualBack hx (y := (⟨"java/lang/String", "length", "()I"⟩ : MethodName)) (z := (⟨"java/lang/String", "length", "()I"⟩ : MethodName)) hown (mvT hZ (own_k hw 49 rfl)) (mvT hZ (own_k hw 50 rfl)) (notFace_of_selects (args := #[]) (mvT hZ (own_k hw 52 rfl))) (mvT hZ (own_k hw 52 rfl)) (mvT hZ (own_k hw 51 rfl)) (by decide) (backOf (W := 0) (rmLen l Z a0 hw [] a1 cc1 tt1 k01 ll1 vv1 (1 : Int32) x1 y1 G1 h0 n0 Z0 hS (hG) hO hE1 hFc1 hFv1 hVv1 (hR1)) hZ (own_k hw 53 rfl) (own_k hw 7 rfl) (by decide) (by decide)) q22a q22c (g := (mkF m 59 #[.val (.ref a1), .val (.ref a2), .val (.int (0 : Int32)), .val (.int (0 : Int32))] [(.ref a1)])) rfl (by rw [hml]; rfl) (Steps.refl _) (argsL := []) (rest := []) (lenOf own_pd_16 rfl) rfl (by show 2 * 0 + _ ≤ _; exact Nat.le_of_eq rfl) (hb hby d10_59) (fun _ _ => ⟨rfl, eh21, (by decide : 0 + 0 ≤ _), (by decide : 0 + 0 ≤ _)⟩)
        dsimp only [Pt.U, Pt.locs, Pt.cells, Pt.slots] at X22 l22 y22 z22 st22 hQ22
        subst l22
        subst y22 z22
        obtain ⟨Nq22, eh22, hv22⟩ := hQ22
        have N22 := Fr.app N21 Nq22
        subst hv22
        obtain ⟨cq23, kq23, q23a, q23b, q23c⟩ := isOf hZ eh22 hE2
        obtain ⟨_, _, ⟨T23, L23, k23, n23⟩, -, X23, ⟨Lc23, hQ23, l23, y23, z23⟩, st23⟩ := X22.virtualBack hx (y := (⟨"java/lang/String", "length", "()I"⟩ : MethodName)) (z := (⟨"java/lang/String", "length", "()I"⟩ : MethodName)) hown (mvT hZ (own_k hw 49 rfl)) (mvT hZ (own_k hw 50 rfl)) (notFace_of_selects (args := #[]) (mvT hZ (own_k hw 52 rfl))) (mvT hZ (own_k hw 52 rfl)) (mvT hZ (own_k hw 51 rfl)) (by decide) (backOf (W := 1) (rmLen l Z a0 hw [] a2 cc2 tt2 k02 ll2 vv2 (0 : Int32) x2 y2 G1 h0 n0 Z0 hS (hG) hO hE2 hFc2 hFv2 hVv2 (hR2)) hZ (own_k hw 53 rfl) (own_k hw 7 rfl) (by decide) (by decide)) q23a q23c (g := (mkF m 63 #[.val (.ref a1), .val (.ref a2), .val (.int (0 : Int32)), .val (.int (0 : Int32))] [(.ref a2), (.int (1 : Int32))])) rfl (by rw [hml]; rfl) (Steps.refl _) (argsL := []) (rest := [(.int (1 : Int32))]) (lenOf own_pd_16 rfl) rfl (by show 2 * 0 + _ ≤ _; exact Nat.le_of_eq rfl) (hb hby d10_63) (fun _ _ => ⟨rfl, eh22, (by decide : 0 + 0 ≤ _), (by decide : 0 + 0 ≤ _)⟩)
        dsimp only [Pt.U, Pt.locs, Pt.cells, Pt.slots] at X23 l23 y23 z23 st23 hQ23
        subst l23
        subst y23 z23
        obtain ⟨Nq23, eh23, hv23⟩ := hQ23
        have N23 := Fr.app N22 Nq23
        subst hv23
        obtain ⟨_, _, ⟨T24, L24, k24, n24⟩, -, X24, ⟨Lc24, hQ24, l24, y24, z24⟩, st24⟩ := Jvm.LawKit.callS X23 hx (y := (⟨"java/lang/Integer", "compare", "(II)I"⟩ : MethodName)) hown (mvT hZ (own_k hw 60 rfl)) (mvT hZ (own_k hw 61 rfl)) (mvT hZ (own_k hw 62 rfl)) (mvT hZ (own_k hw 63 rfl)) (by decide) (backOf (W := 0) (rmIc l Z a0 hw [] (1 : Int32) (0 : Int32) h0 n0 Z0 ) hZ (own_k hw 63 rfl) (own_k hw 62 rfl) (by decide) (by decide)) (g := (mkF m 66 #[.val (.ref a1), .val (.ref a2), .val (.int (0 : Int32)), .val (.int (0 : Int32))] [(.int (0 : Int32)), (.int (1 : Int32))])) rfl (by rw [hml]; rfl) (argsL := [(.int (1 : Int32)), (.int (0 : Int32))]) (rest := []) (lenOf own_pd_17 rfl) rfl (by show 2 * 0 + _ ≤ _; exact Nat.le_of_eq rfl) (hb hby d10_66) (fun _ _ => ⟨rfl, eh23, (by decide : 0 + 0 ≤ _), (by decide : 0 + 0 ≤ _)⟩)
        dsimp only [Pt.U, Pt.locs, Pt.cells, Pt.slots] at X24 l24 y24 z24 st24 hQ24
        subst l24
        subst y24 z24
        obtain ⟨Nq24, eh24, hv24⟩ := hQ24
        have N24 := Fr.app N23 Nq24
        subst hv24
        obtain ⟨fs, hr, hrun, hended, hW, hsame⟩ := X24.leave (v := (some (.int (own_ic (1 : Int32) (0 : Int32))))) (fun h => by rw [Bd.returns] at h; cases h)
        refine ⟨_, _, pre0 _ ?_, hrun, hended, _, _, rfl, ?_, ⟨_, rfl⟩, hW, hsame.mono (by decide) (by decide)⟩
        · show Steps p.tables e below (s₁.setTop (mkF m 0 #[.val (.ref a1), .val (.ref a2), .unset, .unset] [])) _
          refine XS.aloadN X0.here hx rfl (hb hby d10_0) rfl rfl ?_
          show Steps p.tables e below (s₁.setTop (mkF m 1 #[.val (.ref a1), .val (.ref a2), .unset, .unset] [(.ref a1)])) _
          refine st19.trans ?_
          show Steps p.tables e below (T19.setTop (mkF m 4 #[.val (.ref a1), .val (.ref a2), .unset, .unset] [(.int (1 : Int32))])) _
          refine XS.aloadN X19.here hx rfl (hb hby d10_4) rfl rfl ?_
          show Steps p.tables e below (T19.setTop (mkF m 5 #[.val (.ref a1), .val (.ref a2), .unset, .unset] [(.ref a2), (.int (1 : Int32))])) _
          refine st20.trans ?_
          show Steps p.tables e below (T20.setTop (mkF m 8 #[.val (.ref a1), .val (.ref a2), .unset, .unset] [(.int (0 : Int32)), (.int (1 : Int32))])) _
          refine st21 _ ?_
          show Steps p.tables e below (T21.setTop (mkF m 11 #[.val (.ref a1), .val (.ref a2), .unset, .unset] [(.int (0 : Int32))])) _
          refine XS.istoreN X21.here hx rfl (hb hby d10_11) rfl (l' := #[.val (.ref a1), .val (.ref a2), .val (.int (0 : Int32)), .unset]) rfl ?_
          show Steps p.tables e below (T21.setTop (mkF m 12 #[.val (.ref a1), .val (.ref a2), .val (.int (0 : Int32)), .unset] [])) _
          refine XS.iconst X21.here hx rfl (hb hby d10_12) ?_
          show Steps p.tables e below (T21.setTop (mkF m 13 #[.val (.ref a1), .val (.ref a2), .val (.int (0 : Int32)), .unset] [(.int (0 : Int32))])) _
          refine XS.istoreN X21.here hx rfl (hb hby d10_13) rfl (l' := #[.val (.ref a1), .val (.ref a2), .val (.int (0 : Int32)), .val (.int (0 : Int32))]) rfl ?_
          show Steps p.tables e below (T21.setTop (mkF m 14 #[.val (.ref a1), .val (.ref a2), .val (.int (0 : Int32)), .val (.int (0 : Int32))] [])) _
          refine XS.iloadN X21.here hx rfl (hb hby d10_14) rfl ?_
          show Steps p.tables e below (T21.setTop (mkF m 15 #[.val (.ref a1), .val (.ref a2), .val (.int (0 : Int32)), .val (.int (0 : Int32))] [(.int (0 : Int32))])) _
          refine XS.iloadN X21.here hx rfl (hb hby d10_15) rfl ?_
          show Steps p.tables e below (T21.setTop (mkF m 16 #[.val (.ref a1), .val (.ref a2), .val (.int (0 : Int32)), .val (.int (0 : Int32))] [(.int (0 : Int32)), (.int (0 : Int32))])) _
          refine XS.icmpYes X21.here hx rfl (pc0 := 16) (pc' := 58) rfl (hb hby d10_16) rfl (by decide) (by decide) (by decide) ?_
          show Steps p.tables e below (T21.setTop (mkF m 58 #[.val (.ref a1), .val (.ref a2), .val (.int (0 : Int32)), .val (.int (0 : Int32))] [])) _
          refine XS.aloadN X21.here hx rfl (hb hby d10_58) rfl rfl ?_
          show Steps p.tables e below (T21.setTop (mkF m 59 #[.val (.ref a1), .val (.ref a2), .val (.int (0 : Int32)), .val (.int (0 : Int32))] [(.ref a1)])) _
          refine st22.trans ?_
          show Steps p.tables e below (T22.setTop (mkF m 62 #[.val (.ref a1), .val (.ref a2), .val (.int (0 : Int32)), .val (.int (0 : Int32))] [(.int (1 : Int32))])) _
          refine XS.aloadN X22.here hx rfl (hb hby d10_62) rfl rfl ?_
          show Steps p.tables e below (T22.setTop (mkF m 63 #[.val (.ref a1), .val (.ref a2), .val (.int (0 : Int32)), .val (.int (0 : Int32))] [(.ref a2), (.int (1 : Int32))])) _
          refine st23.trans ?_
          show Steps p.tables e below (T23.setTop (mkF m 66 #[.val (.ref a1), .val (.ref a2), .val (.int (0 : Int32)), .val (.int (0 : Int32))] [(.int (0 : Int32)), (.int (1 : Int32))])) _
          refine st24 _ ?_
          show Steps p.tables e below (T24.setTop (mkF m 69 #[.val (.ref a1), .val (.ref a2), .val (.int (0 : Int32)), .val (.int (0 : Int32))] [(.int (own_ic (1 : Int32) (0 : Int32)))])) _
          exact retOut X24 hx Bd.returns rfl (Or.inl ⟨rfl, Or.inl rfl, _, rfl⟩) (hb hby d10_69) hr
        · show Qcmp Z a1 a2 cc1 tt1 k01 ll1 vv1 (1 : Int32) x1 y1 cc2 tt2 k02 ll2 vv2 (0 : Int32) x2 y2 G1 fv h0 n0 _ T24.heap _
          rw [eh24]
          exact ⟨N24, rfl, (by unfold own_cmp; rw [if_neg (fun q => (by decide : ¬ (0 : Int32) < own_mn (1 : Int32) (0 : Int32)) q.1), if_neg (fun q => (by decide : ¬ (1 : Int32) < own_mn (1 : Int32) (0 : Int32)) q.1)])⟩
      · subst hv21
        exact absurd hd21_0 (by decide)
    · skip
      obtain ⟨cq25, kq25, q25a, q25b, q25c⟩ := isOf hZ e0 hE1
      obtain ⟨_, _, ⟨T25, L25, k25, n25⟩, -, X25, ⟨Lc25, hQ25, l25, y25, z25⟩, st25⟩ := X0.virtualBack hx (y := (⟨"java/lang/String", "length", "()I"⟩ : MethodName)) (z := (⟨"java/lang/String", "length", "()I"⟩ : MethodName)) hown (mvT hZ (own_k hw 49 rfl)) (mvT hZ (own_k hw 50 rfl)) (notFace_of_selects (args := #[]) (mvT hZ (own_k hw 52 rfl))) (mvT hZ (own_k hw 52 rfl)) (mvT hZ (own_k hw 51 rfl)) (by decide) (backOf (W := 0) (rmLen l Z a0 hw [] a1 cc1 tt1 k01 ll1 vv1 (1 : Int32) x1 y1 G1 h0 n0 Z0 hS (hG) hO hE1 hFc1 hFv1 hVv1 (hR1)) hZ (own_k hw 53 rfl) (own_k hw 7 rfl) (by decide) (by decide)) q25a q25c (g := (mkF m 1 #[.val (.ref a1), .val (.ref a2), .unset, .unset] [(.ref a1)])) rfl (by rw [hml]; rfl) (Steps.refl _) (argsL := []) (rest := []) (lenOf own_pd_16 rfl) rfl (by show 2 * 0 + _ ≤ _; exact Nat.le_of_eq rfl) (hb hby d10_1) (fun _ _ => ⟨rfl, e0, (by decide : 0 + 0 ≤ _), (by decide : 0 + 0 ≤ _)⟩)
      dsimp only [Pt.U, Pt.locs, Pt.cells, Pt.slots] at X25 l25 y25 z25 st25 hQ25
      subst l25
      subst y25 z25
      obtain ⟨Nq25, eh25, hv25⟩ := hQ25
      have N25 := Fr.app N0 Nq25
      subst hv25
      obtain ⟨cq26, kq26, q26a, q26b, q26c⟩ := isOf hZ eh25 hE2
      obtain ⟨_, _, ⟨T26, L26, k26, n26⟩, -, X26, ⟨Lc26, hQ26, l26, y26, z26⟩, st26⟩ := X25.virtualBack hx (y := (⟨"java/lang/String", "length", "()I"⟩ : MethodName)) (z := (⟨"java/lang/String", "length", "()I"⟩ : MethodName)) hown (mvT hZ (own_k hw 49 rfl)) (mvT hZ (own_k hw 50 rfl)) (notFace_of_selects (args := #[]) (mvT hZ (own_k hw 52 rfl))) (mvT hZ (own_k hw 52 rfl)) (mvT hZ (own_k hw 51 rfl)) (by decide) (backOf (W := 1) (rmLen l Z a0 hw [] a2 cc2 tt2 k02 ll2 vv2 (1 : Int32) x2 y2 G1 h0 n0 Z0 hS (hG) hO hE2 hFc2 hFv2 hVv2 (hR2)) hZ (own_k hw 53 rfl) (own_k hw 7 rfl) (by decide) (by decide)) q26a q26c (g := (mkF m 5 #[.val (.ref a1), .val (.ref a2), .unset, .unset] [(.ref a2), (.int (1 : Int32))])) rfl (by rw [hml]; rfl) (Steps.refl _) (argsL := []) (rest := [(.int (1 : Int32))]) (lenOf own_pd_16 rfl) rfl (by show 2 * 0 + _ ≤ _; exact Nat.le_of_eq rfl) (hb hby d10_5) (fun _ _ => ⟨rfl, eh25, (by decide : 0 + 0 ≤ _), (by decide : 0 + 0 ≤ _)⟩)
      dsimp only [Pt.U, Pt.locs, Pt.cells, Pt.slots] at X26 l26 y26 z26 st26 hQ26
      subst l26
      subst y26 z26
      obtain ⟨Nq26, eh26, hv26⟩ := hQ26
      have N26 := Fr.app N25 Nq26
      subst hv26
      obtain ⟨_, _, ⟨T27, L27, k27, n27⟩, -, X27, ⟨Lc27, hQ27, l27, y27, z27⟩, st27⟩ := Jvm.LawKit.callS X26 hx (y := (⟨"java/lang/Math", "min", "(II)I"⟩ : MethodName)) hown (mvT hZ (own_k hw 59 rfl)) (mvT hZ (own_k hw 39 rfl)) (mvT hZ (own_k hw 40 rfl)) (mvT hZ (own_k hw 41 rfl)) (by decide) (backOf (W := 0) (rmMo l Z a0 hw [] (1 : Int32) (1 : Int32) h0 n0 Z0 ) hZ (own_k hw 41 rfl) (own_k hw 40 rfl) (by decide) (by decide)) (g := (mkF m 8 #[.val (.ref a1), .val (.ref a2), .unset, .unset] [(.int (1 : Int32)), (.int (1 : Int32))])) rfl (by rw [hml]; rfl) (argsL := [(.int (1 : Int32)), (.int (1 : Int32))]) (rest := []) (lenOf own_pd_17 rfl) rfl (by show 2 * 0 + _ ≤ _; exact Nat.le_of_eq rfl) (hb hby d10_8) (fun _ _ => ⟨rfl, eh26, (by decide : 0 + 0 ≤ _), (by decide : 0 + 0 ≤ _)⟩)
      dsimp only [Pt.U, Pt.locs, Pt.cells, Pt.slots] at X27 l27 y27 z27 st27 hQ27
      subst l27
      subst y27 z27
      obtain ⟨Nq27, eh27, hv27⟩ := hQ27
      have N27 := Fr.app N26 Nq27
      rcases hv27 with ⟨hv27, hd27_0⟩ | ⟨hv27, hd27_0⟩
      · subst hv27
        exact absurd hd27_0 (by decide)
      · subst hv27
        obtain ⟨cq28, kq28, q28a, q28b, q28c⟩ := isOf hZ eh27 hE1
        obtain ⟨_, _, ⟨T28, L28, k28, n28⟩, -, X28, ⟨Lc28, hQ28, l28, y28, z28⟩, st28⟩ := X27.virtualBack hx (y := (⟨"java/lang/String", "charAt", "(I)C"⟩ : MethodName)) (z := (⟨"java/lang/String", "charAt", "(I)C"⟩ : MethodName)) hown (mvT hZ (own_k hw 87 rfl)) (mvT hZ (own_k hw 88 rfl)) (notFace_of_selects (args := #[]) (mvT hZ (own_k hw 90 rfl))) (mvT hZ (own_k hw 90 rfl)) (mvT hZ (own_k hw 89 rfl)) (by decide) (backOf (W := 0) (rmCa0 l Z a0 hw [] a1 cc1 tt1 k01 ll1 vv1 (1 : Int32) x1 y1 G1 fv h0 n0 Z0 hS (hG) hSa hSh hSl hSf (hfr) hO hE1 hFc1 hFv1 hVv1 (hR1) (by decide) (hHx1)) hZ (own_k hw 91 rfl) (own_k hw 7 rfl) (by decide) (by decide)) q28a q28c (g := (mkF m 21 #[.val (.ref a1), .val (.ref a2), .val (.int (1 : Int32)), .val (.int (0 : Int32))] [(.int (0 : Int32)), (.ref a1)])) rfl (by rw [hml]; rfl) (Steps.refl _) (argsL := [(.int (0 : Int32))]) (rest := []) (lenOf own_pd_18 rfl) rfl (by show 2 * 0 + _ ≤ _; exact Nat.le_of_eq rfl) (hb hby d10_21) (fun _ _ => ⟨rfl, eh27, (by decide : 0 + 0 ≤ _), (by decide : 0 + 0 ≤ _)⟩)
        dsimp only [Pt.U, Pt.locs, Pt.cells, Pt.slots] at X28 l28 y28 z28 st28 hQ28
        subst l28
        subst y28 z28
        obtain ⟨Nq28, eh28, hv28⟩ := hQ28
        have N28 := Fr.app N27 Nq28
        subst hv28
        obtain ⟨cq29, kq29, q29a, q29b, q29c⟩ := isOf hZ eh28 hE2
        obtain ⟨_, _, ⟨T29, L29, k29, n29⟩, -, X29, ⟨Lc29, hQ29, l29, y29, z29⟩, st29⟩ := X28.virtualBack hx (y := (⟨"java/lang/String", "charAt", "(I)C"⟩ : MethodName)) (z := (⟨"java/lang/String", "charAt", "(I)C"⟩ : MethodName)) hown (mvT hZ (own_k hw 87 rfl)) (mvT hZ (own_k hw 88 rfl)) (notFace_of_selects (args := #[]) (mvT hZ (own_k hw 90 rfl))) (mvT hZ (own_k hw 90 rfl)) (mvT hZ (own_k hw 89 rfl)) (by decide) (backOf (W := 1) (rmCa0 l Z a0 hw [] a2 cc2 tt2 k02 ll2 vv2 (1 : Int32) x2 y2 G1 fv h0 n0 Z0 hS (hG) hSa hSh hSl hSf (hfr) hO hE2 hFc2 hFv2 hVv2 (hR2) (by decide) (hHx2)) hZ (own_k hw 91 rfl) (own_k hw 7 rfl) (by decide) (by decide)) q29a q29c (g := (mkF m 26 #[.val (.ref a1), .val (.ref a2), .val (.int (1 : Int32)), .val (.int (0 : Int32))] [(.int (0 : Int32)), (.ref a2), (.int x1)])) rfl (by rw [hml]; rfl) (Steps.refl _) (argsL := [(.int (0 : Int32))]) (rest := [(.int x1)]) (lenOf own_pd_18 rfl) rfl (by show 2 * 0 + _ ≤ _; exact Nat.le_of_eq rfl) (hb hby d10_26) (fun _ _ => ⟨rfl, eh28, (by decide : 0 + 0 ≤ _), (by decide : 0 + 0 ≤ _)⟩)
        dsimp only [Pt.U, Pt.locs, Pt.cells, Pt.slots] at X29 l29 y29 z29 st29 hQ29
        subst l29
        subst y29 z29
        obtain ⟨Nq29, eh29, hv29⟩ := hQ29
        have N29 := Fr.app N28 Nq29
        subst hv29
        have pre30 : ∀ t, Steps p.tables e below (T29.setTop (mkF m 29 #[.val (.ref a1), .val (.ref a2), .val (.int (1 : Int32)), .val (.int (0 : Int32))] [(.int x2), (.int x1)])) t → Steps p.tables e below (s₁.setTop (entryFrame m #[(.ref a1), (.ref a2)] 4)) t := fun t kt => pre0 t (by
          show Steps p.tables e below (s₁.setTop (mkF m 0 #[.val (.ref a1), .val (.ref a2), .unset, .unset] [])) _
          refine XS.aloadN X0.here hx rfl (hb hby d10_0) rfl rfl ?_
          show Steps p.tables e below (s₁.setTop (mkF m 1 #[.val (.ref a1), .val (.ref a2), .unset, .unset] [(.ref a1)])) _
          refine st25.trans ?_
          show Steps p.tables e below (T25.setTop (mkF m 4 #[.val (.ref a1), .val (.ref a2), .unset, .unset] [(.int (1 : Int32))])) _
          refine XS.aloadN X25.here hx rfl (hb hby d10_4) rfl rfl ?_
          show Steps p.tables e below (T25.setTop (mkF m 5 #[.val (.ref a1), .val (.ref a2), .unset, .unset] [(.ref a2), (.int (1 : Int32))])) _
          refine st26.trans ?_
          show Steps p.tables e below (T26.setTop (mkF m 8 #[.val (.ref a1), .val (.ref a2), .unset, .unset] [(.int (1 : Int32)), (.int (1 : Int32))])) _
          refine st27 _ ?_
          show Steps p.tables e below (T27.setTop (mkF m 11 #[.val (.ref a1), .val (.ref a2), .unset, .unset] [(.int (1 : Int32))])) _
          refine XS.istoreN X27.here hx rfl (hb hby d10_11) rfl (l' := #[.val (.ref a1), .val (.ref a2), .val (.int (1 : Int32)), .unset]) rfl ?_
          show Steps p.tables e below (T27.setTop (mkF m 12 #[.val (.ref a1), .val (.ref a2), .val (.int (1 : Int32)), .unset] [])) _
          refine XS.iconst X27.here hx rfl (hb hby d10_12) ?_
          show Steps p.tables e below (T27.setTop (mkF m 13 #[.val (.ref a1), .val (.ref a2), .val (.int (1 : Int32)), .unset] [(.int (0 : Int32))])) _
          refine XS.istoreN X27.here hx rfl (hb hby d10_13) rfl (l' := #[.val (.ref a1), .val (.ref a2), .val (.int (1 : Int32)), .val (.int (0 : Int32))]) rfl ?_
          show Steps p.tables e below (T27.setTop (mkF m 14 #[.val (.ref a1), .val (.ref a2), .val (.int (1 : Int32)), .val (.int (0 : Int32))] [])) _
          refine XS.iloadN X27.here hx rfl (hb hby d10_14) rfl ?_
          show Steps p.tables e below (T27.setTop (mkF m 15 #[.val (.ref a1), .val (.ref a2), .val (.int (1 : Int32)), .val (.int (0 : Int32))] [(.int (0 : Int32))])) _
          refine XS.iloadN X27.here hx rfl (hb hby d10_15) rfl ?_
          show Steps p.tables e below (T27.setTop (mkF m 16 #[.val (.ref a1), .val (.ref a2), .val (.int (1 : Int32)), .val (.int (0 : Int32))] [(.int (1 : Int32)), (.int (0 : Int32))])) _
          refine XS.icmpNo X27.here hx rfl (hb hby d10_16) rfl (by decide) ?_
          show Steps p.tables e below (T27.setTop (mkF m 19 #[.val (.ref a1), .val (.ref a2), .val (.int (1 : Int32)), .val (.int (0 : Int32))] [])) _
          refine XS.aloadN X27.here hx rfl (hb hby d10_19) rfl rfl ?_
          show Steps p.tables e below (T27.setTop (mkF m 20 #[.val (.ref a1), .val (.ref a2), .val (.int (1 : Int32)), .val (.int (0 : Int32))] [(.ref a1)])) _
          refine XS.iloadN X27.here hx rfl (hb hby d10_20) rfl ?_
          show Steps p.tables e below (T27.setTop (mkF m 21 #[.val (.ref a1), .val (.ref a2), .val (.int (1 : Int32)), .val (.int (0 : Int32))] [(.int (0 : Int32)), (.ref a1)])) _
          refine st28.trans ?_
          show Steps p.tables e below (T28.setTop (mkF m 24 #[.val (.ref a1), .val (.ref a2), .val (.int (1 : Int32)), .val (.int (0 : Int32))] [(.int x1)])) _
          refine XS.aloadN X28.here hx rfl (hb hby d10_24) rfl rfl ?_
          show Steps p.tables e below (T28.setTop (mkF m 25 #[.val (.ref a1), .val (.ref a2), .val (.int (1 : Int32)), .val (.int (0 : Int32))] [(.ref a2), (.int x1)])) _
          refine XS.iloadN X28.here hx rfl (hb hby d10_25) rfl ?_
          show Steps p.tables e below (T28.setTop (mkF m 26 #[.val (.ref a1), .val (.ref a2), .val (.int (1 : Int32)), .val (.int (0 : Int32))] [(.int (0 : Int32)), (.ref a2), (.int x1)])) _
          refine st29.trans ?_
          exact kt)
        by_cases hcx31 : x1 = x2
        · skip
          obtain ⟨cq32, kq32, q32a, q32b, q32c⟩ := isOf hZ eh29 hE1
          obtain ⟨_, _, ⟨T32, L32, k32, n32⟩, -, X32, ⟨Lc32, hQ32, l32, y32, z32⟩, st32⟩ := X29.virtualBack hx (y := (⟨"java/lang/String", "length", "()I"⟩ : MethodName)) (z := (⟨"java/lang/String", "length", "()I"⟩ : MethodName)) hown (mvT hZ (own_k hw 49 rfl)) (mvT hZ (own_k hw 50 rfl)) (notFace_of_selects (args := #[]) (mvT hZ (own_k hw 52 rfl))) (mvT hZ (own_k hw 52 rfl)) (mvT hZ (own_k hw 51 rfl)) (by decide) (backOf (W := 0) (rmLen l Z a0 hw [] a1 cc1 tt1 k01 ll1 vv1 (1 : Int32) x1 y1 G1 h0 n0 Z0 hS (hG) hO hE1 hFc1 hFv1 hVv1 (hR1)) hZ (own_k hw 53 rfl) (own_k hw 7 rfl) (by decide) (by decide)) q32a q32c (g := (mkF m 59 #[.val (.ref a1), .val (.ref a2), .val (.int (1 : Int32)), .val (.int (1 : Int32))] [(.ref a1)])) rfl (by rw [hml]; rfl) (Steps.refl _) (argsL := []) (rest := []) (lenOf own_pd_16 rfl) rfl (by show 2 * 0 + _ ≤ _; exact Nat.le_of_eq rfl) (hb hby d10_59) (fun _ _ => ⟨rfl, eh29, (by decide : 0 + 0 ≤ _), (by decide : 0 + 0 ≤ _)⟩)
          dsimp only [Pt.U, Pt.locs, Pt.cells, Pt.slots] at X32 l32 y32 z32 st32 hQ32
          subst l32
          subst y32 z32
          obtain ⟨Nq32, eh32, hv32⟩ := hQ32
          have N32 := Fr.app N29 Nq32
          subst hv32
          obtain ⟨cq33, kq33, q33a, q33b, q33c⟩ := isOf hZ eh32 hE2
          obtain ⟨_, _, ⟨T33, L33, k33, n33⟩, -, X33, ⟨Lc33, hQ33, l33, y33, z33⟩, st33⟩ := X32.virtualBack hx (y := (⟨"java/lang/String", "length", "()I"⟩ : MethodName)) (z := (⟨"java/lang/String", "length", "()I"⟩ : MethodName)) hown (mvT hZ (own_k hw 49 rfl)) (mvT hZ (own_k hw 50 rfl)) (notFace_of_selects (args := #[]) (mvT hZ (own_k hw 52 rfl))) (mvT hZ (own_k hw 52 rfl)) (mvT hZ (own_k hw 51 rfl)) (by decide) (backOf (W := 1) (rmLen l Z a0 hw [] a2 cc2 tt2 k02 ll2 vv2 (1 : Int32) x2 y2 G1 h0 n0 Z0 hS (hG) hO hE2 hFc2 hFv2 hVv2 (hR2)) hZ (own_k hw 53 rfl) (own_k hw 7 rfl) (by decide) (by decide)) q33a q33c (g := (mkF m 63 #[.val (.ref a1), .val (.ref a2), .val (.int (1 : Int32)), .val (.int (1 : Int32))] [(.ref a2), (.int (1 : Int32))])) rfl (by rw [hml]; rfl) (Steps.refl _) (argsL := []) (rest := [(.int (1 : Int32))]) (lenOf own_pd_16 rfl) rfl (by show 2 * 0 + _ ≤ _; exact Nat.le_of_eq rfl) (hb hby d10_63) (fun _ _ => ⟨rfl, eh32, (by decide : 0 + 0 ≤ _), (by decide : 0 + 0 ≤ _)⟩)
          dsimp only [Pt.U, Pt.locs, Pt.cells, Pt.slots] at X33 l33 y33 z33 st33 hQ33
          subst l33
          subst y33 z33
          obtain ⟨Nq33, eh33, hv33⟩ := hQ33
          have N33 := Fr.app N32 Nq33
          subst hv33
          obtain ⟨_, _, ⟨T34, L34, k34, n34⟩, -, X34, ⟨Lc34, hQ34, l34, y34, z34⟩, st34⟩ := Jvm.LawKit.callS X33 hx (y := (⟨"java/lang/Integer", "compare", "(II)I"⟩ : MethodName)) hown (mvT hZ (own_k hw 60 rfl)) (mvT hZ (own_k hw 61 rfl)) (mvT hZ (own_k hw 62 rfl)) (mvT hZ (own_k hw 63 rfl)) (by decide) (backOf (W := 0) (rmIc l Z a0 hw [] (1 : Int32) (1 : Int32) h0 n0 Z0 ) hZ (own_k hw 63 rfl) (own_k hw 62 rfl) (by decide) (by decide)) (g := (mkF m 66 #[.val (.ref a1), .val (.ref a2), .val (.int (1 : Int32)), .val (.int (1 : Int32))] [(.int (1 : Int32)), (.int (1 : Int32))])) rfl (by rw [hml]; rfl) (argsL := [(.int (1 : Int32)), (.int (1 : Int32))]) (rest := []) (lenOf own_pd_17 rfl) rfl (by show 2 * 0 + _ ≤ _; exact Nat.le_of_eq rfl) (hb hby d10_66) (fun _ _ => ⟨rfl, eh33, (by decide : 0 + 0 ≤ _), (by decide : 0 + 0 ≤ _)⟩)
          dsimp only [Pt.U, Pt.locs, Pt.cells, Pt.slots] at X34 l34 y34 z34 st34 hQ34
          subst l34
          subst y34 z34
          obtain ⟨Nq34, eh34, hv34⟩ := hQ34
          have N34 := Fr.app N33 Nq34
          subst hv34
          obtain ⟨fs, hr, hrun, hended, hW, hsame⟩ := X34.leave (v := (some (.int (own_ic (1 : Int32) (1 : Int32))))) (fun h => by rw [Bd.returns] at h; cases h)
          refine ⟨_, _, pre30 _ ?_, hrun, hended, _, _, rfl, ?_, ⟨_, rfl⟩, hW, hsame.mono (by decide) (by decide)⟩
          · show Steps p.tables e below (T29.setTop (mkF m 29 #[.val (.ref a1), .val (.ref a2), .val (.int (1 : Int32)), .val (.int (0 : Int32))] [(.int x2), (.int x1)])) _
            refine XS.icmpYes X29.here hx rfl (pc0 := 29) (pc' := 52) rfl (hb hby d10_29) rfl (teq hcx31).1 (by decide) (by decide) ?_
            show Steps p.tables e below (T29.setTop (mkF m 52 #[.val (.ref a1), .val (.ref a2), .val (.int (1 : Int32)), .val (.int (0 : Int32))] [])) _
            refine XS.iinc X29.here hx rfl (hb hby d10_52) rfl (l' := #[.val (.ref a1), .val (.ref a2), .val (.int (1 : Int32)), .val (.int (1 : Int32))]) rfl ?_
            show Steps p.tables e below (T29.setTop (mkF m 55 #[.val (.ref a1), .val (.ref a2), .val (.int (1 : Int32)), .val (.int (1 : Int32))] [])) _
            refine XS.goto X29.here hx rfl (pc0 := 55) (pc' := 14) rfl (hb hby d10_55) (by decide) (by decide) ?_
            show Steps p.tables e below (T29.setTop (mkF m 14 #[.val (.ref a1), .val (.ref a2), .val (.int (1 : Int32)), .val (.int (1 : Int32))] [])) _
            refine XS.iloadN X29.here hx rfl (hb hby d10_14) rfl ?_
            show Steps p.tables e below (T29.setTop (mkF m 15 #[.val (.ref a1), .val (.ref a2), .val (.int (1 : Int32)), .val (.int (1 : Int32))] [(.int (1 : Int32))])) _
            refine XS.iloadN X29.here hx rfl (hb hby d10_15) rfl ?_
            show Steps p.tables e below (T29.setTop (mkF m 16 #[.val (.ref a1), .val (.ref a2), .val (.int (1 : Int32)), .val (.int (1 : Int32))] [(.int (1 : Int32)), (.int (1 : Int32))])) _
            refine XS.icmpYes X29.here hx rfl (pc0 := 16) (pc' := 58) rfl (hb hby d10_16) rfl (by decide) (by decide) (by decide) ?_
            show Steps p.tables e below (T29.setTop (mkF m 58 #[.val (.ref a1), .val (.ref a2), .val (.int (1 : Int32)), .val (.int (1 : Int32))] [])) _
            refine XS.aloadN X29.here hx rfl (hb hby d10_58) rfl rfl ?_
            show Steps p.tables e below (T29.setTop (mkF m 59 #[.val (.ref a1), .val (.ref a2), .val (.int (1 : Int32)), .val (.int (1 : Int32))] [(.ref a1)])) _
            refine st32.trans ?_
            show Steps p.tables e below (T32.setTop (mkF m 62 #[.val (.ref a1), .val (.ref a2), .val (.int (1 : Int32)), .val (.int (1 : Int32))] [(.int (1 : Int32))])) _
            refine XS.aloadN X32.here hx rfl (hb hby d10_62) rfl rfl ?_
            show Steps p.tables e below (T32.setTop (mkF m 63 #[.val (.ref a1), .val (.ref a2), .val (.int (1 : Int32)), .val (.int (1 : Int32))] [(.ref a2), (.int (1 : Int32))])) _
            refine st33.trans ?_
            show Steps p.tables e below (T33.setTop (mkF m 66 #[.val (.ref a1), .val (.ref a2), .val (.int (1 : Int32)), .val (.int (1 : Int32))] [(.int (1 : Int32)), (.int (1 : Int32))])) _
            refine st34 _ ?_
            show Steps p.tables e below (T34.setTop (mkF m 69 #[.val (.ref a1), .val (.ref a2), .val (.int (1 : Int32)), .val (.int (1 : Int32))] [(.int (own_ic (1 : Int32) (1 : Int32)))])) _
            exact retOut X34 hx Bd.returns rfl (Or.inl ⟨rfl, Or.inl rfl, _, rfl⟩) (hb hby d10_69) hr
          · show Qcmp Z a1 a2 cc1 tt1 k01 ll1 vv1 (1 : Int32) x1 y1 cc2 tt2 k02 ll2 vv2 (1 : Int32) x2 y2 G1 fv h0 n0 _ T34.heap _
            rw [eh34]
            exact ⟨N34, rfl, (by unfold own_cmp; rw [if_neg (fun q => q.2 hcx31), if_neg (fun q => (by decide : ¬ (1 : Int32) < own_mn (1 : Int32) (1 : Int32)) q.1)])⟩
        · skip
          obtain ⟨cq35, kq35, q35a, q35b, q35c⟩ := isOf hZ eh29 hE1
          obtain ⟨_, _, ⟨T35, L35, k35, n35⟩, -, X35, ⟨Lc35, hQ35, l35, y35, z35⟩, st35⟩ := X29.virtualBack hx (y := (⟨"java/lang/String", "charAt", "(I)C"⟩ : MethodName)) (z := (⟨"java/lang/String", "charAt", "(I)C"⟩ : MethodName)) hown (mvT hZ (own_k hw 87 rfl)) (mvT hZ (own_k hw 88 rfl)) (notFace_of_selects (args := #[]) (mvT hZ (own_k hw 90 rfl))) (mvT hZ (own_k hw 90 rfl)) (mvT hZ (own_k hw 89 rfl)) (by decide) (backOf (W := 0) (rmCa0 l Z a0 hw [] a1 cc1 tt1 k01 ll1 vv1 (1 : Int32) x1 y1 G1 fv h0 n0 Z0 hS (hG) hSa hSh hSl hSf (hfr) hO hE1 hFc1 hFv1 hVv1 (hR1) (by decide) (hHx1)) hZ (own_k hw 91 rfl) (own_k hw 7 rfl) (by decide) (by decide)) q35a q35c (g := (mkF m 34 #[.val (.ref a1), .val (.ref a2), .val (.int (1 : Int32)), .val (.int (0 : Int32))] [(.int (0 : Int32)), (.ref a1)])) rfl (by rw [hml]; rfl) (Steps.refl _) (argsL := [(.int (0 : Int32))]) (rest := []) (lenOf own_pd_18 rfl) rfl (by show 2 * 0 + _ ≤ _; exact Nat.le_of_eq rfl) (hb hby d10_34) (fun _ _ => ⟨rfl, eh29, (by decide : 0 + 0 ≤ _), (by decide : 0 + 0 ≤ _)⟩)
          dsimp only [Pt.U, Pt.locs, Pt.cells, Pt.slots] at X35 l35 y35 z35 st35 hQ35
          subst l35
          subst y35 z35
          obtain ⟨Nq35, eh35, hv35⟩ := hQ35
          have N35 := Fr.app N29 Nq35
          subst hv35
          obtain ⟨_, _, ⟨T36, L36, k36, n36⟩, -, X36, ⟨Lc36, hQ36, l36, y36, z36⟩, st36⟩ := Jvm.LawKit.callS X35 hx (y := (⟨"com/example/topics_into_queries/topicsintoqueries/CodePoints", "rank", "(C)I"⟩ : MethodName)) hown (mvT hZ (own_k hw 114 rfl)) (mvT hZ (own_k hw 115 rfl)) (mvT hZ (own_k hw 47 rfl)) (mvT hZ (own_k hw 116 rfl)) (by decide) (backOf (W := 0) (rmRk l Z a0 hw [] x1 h0 n0 Z0 ) hZ (own_k hw 116 rfl) (own_k hw 47 rfl) (by decide) (by decide)) (g := (mkF m 37 #[.val (.ref a1), .val (.ref a2), .val (.int (1 : Int32)), .val (.int (0 : Int32))] [(.int x1)])) rfl (by rw [hml]; rfl) (argsL := [(.int x1)]) (rest := []) (lenOf own_pd_19 rfl) rfl (by show 2 * 0 + _ ≤ _; exact Nat.le_of_eq rfl) (hb hby d10_37) (fun _ _ => ⟨rfl, eh35, (by decide : 0 + 0 ≤ _), (by decide : 0 + 0 ≤ _)⟩)
          dsimp only [Pt.U, Pt.locs, Pt.cells, Pt.slots] at X36 l36 y36 z36 st36 hQ36
          subst l36
          subst y36 z36
          obtain ⟨Nq36, eh36, hv36⟩ := hQ36
          have N36 := Fr.app N35 Nq36
          subst hv36
          obtain ⟨cq37, kq37, q37a, q37b, q37c⟩ := isOf hZ eh36 hE2
          obtain ⟨_, _, ⟨T37, L37, k37, n37⟩, -, X37, ⟨Lc37, hQ37, l37, y37, z37⟩, st37⟩ := X36.virtualBack hx (y := (⟨"java/lang/String", "charAt", "(I)C"⟩ : MethodName)) (z := (⟨"java/lang/String", "charAt", "(I)C"⟩ : MethodName)) hown (mvT hZ (own_k hw 87 rfl)) (mvT hZ (own_k hw 88 rfl)) (notFace_of_selects (args := #[]) (mvT hZ (own_k hw 90 rfl))) (mvT hZ (own_k hw 90 rfl)) (mvT hZ (own_k hw 89 rfl)) (by decide) (backOf (W := 1) (rmCa0 l Z a0 hw [] a2 cc2 tt2 k02 ll2 vv2 (1 : Int32) x2 y2 G1 fv h0 n0 Z0 hS (hG) hSa hSh hSl hSf (hfr) hO hE2 hFc2 hFv2 hVv2 (hR2) (by decide) (hHx2)) hZ (own_k hw 91 rfl) (own_k hw 7 rfl) (by decide) (by decide)) q37a q37c (g := (mkF m 42 #[.val (.ref a1), .val (.ref a2), .val (.int (1 : Int32)), .val (.int (0 : Int32))] [(.int (0 : Int32)), (.ref a2), (.int (own_rk x1))])) rfl (by rw [hml]; rfl) (Steps.refl _) (argsL := [(.int (0 : Int32))]) (rest := [(.int (own_rk x1))]) (lenOf own_pd_18 rfl) rfl (by show 2 * 0 + _ ≤ _; exact Nat.le_of_eq rfl) (hb hby d10_42) (fun _ _ => ⟨rfl, eh36, (by decide : 0 + 0 ≤ _), (by decide : 0 + 0 ≤ _)⟩)
          dsimp only [Pt.U, Pt.locs, Pt.cells, Pt.slots] at X37 l37 y37 z37 st37 hQ37
          subst l37
          subst y37 z37
          obtain ⟨Nq37, eh37, hv37⟩ := hQ37
          have N37 := Fr.app N36 Nq37
          subst hv37
          obtain ⟨_, _, ⟨T38, L38, k38, n38⟩, -, X38, ⟨Lc38, hQ38, l38, y38, z38⟩, st38⟩ := Jvm.LawKit.callS X37 hx (y := (⟨"com/example/topics_into_queries/topicsintoqueries/CodePoints", "rank", "(C)I"⟩ : MethodName)) hown (mvT hZ (own_k hw 114 rfl)) (mvT hZ (own_k hw 115 rfl)) (mvT hZ (own_k hw 47 rfl)) (mvT hZ (own_k hw 116 rfl)) (by decide) (backOf (W := 1) (rmRk l Z a0 hw [] x2 h0 n0 Z0 ) hZ (own_k hw 116 rfl) (own_k hw 47 rfl) (by decide) (by decide)) (g := (mkF m 45 #[.val (.ref a1), .val (.ref a2), .val (.int (1 : Int32)), .val (.int (0 : Int32))] [(.int x2), (.int (own_rk x1))])) rfl (by rw [hml]; rfl) (argsL := [(.int x2)]) (rest := [(.int (own_rk x1))]) (lenOf own_pd_19 rfl) rfl (by show 2 * 0 + _ ≤ _; exact Nat.le_of_eq rfl) (hb hby d10_45) (fun _ _ => ⟨rfl, eh37, (by decide : 0 + 0 ≤ _), (by decide : 0 + 0 ≤ _)⟩)
          dsimp only [Pt.U, Pt.locs, Pt.cells, Pt.slots] at X38 l38 y38 z38 st38 hQ38
          subst l38
          subst y38 z38
          obtain ⟨Nq38, eh38, hv38⟩ := hQ38
          have N38 := Fr.app N37 Nq38
          subst hv38
          obtain ⟨_, _, ⟨T39, L39, k39, n39⟩, -, X39, ⟨Lc39, hQ39, l39, y39, z39⟩, st39⟩ := Jvm.LawKit.callS X38 hx (y := (⟨"java/lang/Integer", "compare", "(II)I"⟩ : MethodName)) hown (mvT hZ (own_k hw 60 rfl)) (mvT hZ (own_k hw 61 rfl)) (mvT hZ (own_k hw 62 rfl)) (mvT hZ (own_k hw 63 rfl)) (by decide) (backOf (W := 0) (rmIc l Z a0 hw [] (own_rk x1) (own_rk x2) h0 n0 Z0 ) hZ (own_k hw 63 rfl) (own_k hw 62 rfl) (by decide) (by decide)) (g := (mkF m 48 #[.val (.ref a1), .val (.ref a2), .val (.int (1 : Int32)), .val (.int (0 : Int32))] [(.int (own_rk x2)), (.int (own_rk x1))])) rfl (by rw [hml]; rfl) (argsL := [(.int (own_rk x1)), (.int (own_rk x2))]) (rest := []) (lenOf own_pd_17 rfl) rfl (by show 2 * 0 + _ ≤ _; exact Nat.le_of_eq rfl) (hb hby d10_48) (fun _ _ => ⟨rfl, eh38, (by decide : 0 + 0 ≤ _), (by decide : 0 + 0 ≤ _)⟩)
          dsimp only [Pt.U, Pt.locs, Pt.cells, Pt.slots] at X39 l39 y39 z39 st39 hQ39
          subst l39
          subst y39 z39
          obtain ⟨Nq39, eh39, hv39⟩ := hQ39
          have N39 := Fr.app N38 Nq39
          subst hv39
          obtain ⟨fs, hr, hrun, hended, hW, hsame⟩ := X39.leave (v := (some (.int (own_ic (own_rk x1) (own_rk x2))))) (fun h => by rw [Bd.returns] at h; cases h)
          refine ⟨_, _, pre30 _ ?_, hrun, hended, _, _, rfl, ?_, ⟨_, rfl⟩, hW, hsame.mono (by decide) (by decide)⟩
          · show Steps p.tables e below (T29.setTop (mkF m 29 #[.val (.ref a1), .val (.ref a2), .val (.int (1 : Int32)), .val (.int (0 : Int32))] [(.int x2), (.int x1)])) _
            refine XS.icmpNo X29.here hx rfl (hb hby d10_29) rfl (feq hcx31).1 ?_
            show Steps p.tables e below (T29.setTop (mkF m 32 #[.val (.ref a1), .val (.ref a2), .val (.int (1 : Int32)), .val (.int (0 : Int32))] [])) _
            refine XS.aloadN X29.here hx rfl (hb hby d10_32) rfl rfl ?_
            show Steps p.tables e below (T29.setTop (mkF m 33 #[.val (.ref a1), .val (.ref a2), .val (.int (1 : Int32)), .val (.int (0 : Int32))] [(.ref a1)])) _
            refine XS.iloadN X29.here hx rfl (hb hby d10_33) rfl ?_
            show Steps p.tables e below (T29.setTop (mkF m 34 #[.val (.ref a1), .val (.ref a2), .val (.int (1 : Int32)), .val (.int (0 : Int32))] [(.int (0 : Int32)), (.ref a1)])) _
            refine st35.trans ?_
            show Steps p.tables e below (T35.setTop (mkF m 37 #[.val (.ref a1), .val (.ref a2), .val (.int (1 : Int32)), .val (.int (0 : Int32))] [(.int x1)])) _
            refine st36 _ ?_
            show Steps p.tables e below (T36.setTop (mkF m 40 #[.val (.ref a1), .val (.ref a2), .val (.int (1 : Int32)), .val (.int (0 : Int32))] [(.int (own_rk x1))])) _
            refine XS.aloadN X36.here hx rfl (hb hby d10_40) rfl rfl ?_
            show Steps p.tables e below (T36.setTop (mkF m 41 #[.val (.ref a1), .val (.ref a2), .val (.int (1 : Int32)), .val (.int (0 : Int32))] [(.ref a2), (.int (own_rk x1))])) _
            refine XS.iloadN X36.here hx rfl (hb hby d10_41) rfl ?_
            show Steps p.tables e below (T36.setTop (mkF m 42 #[.val (.ref a1), .val (.ref a2), .val (.int (1 : Int32)), .val (.int (0 : Int32))] [(.int (0 : Int32)), (.ref a2), (.int (own_rk x1))])) _
            refine st37.trans ?_
            show Steps p.tables e below (T37.setTop (mkF m 45 #[.val (.ref a1), .val (.ref a2), .val (.int (1 : Int32)), .val (.int (0 : Int32))] [(.int x2), (.int (own_rk x1))])) _
            refine st38 _ ?_
            show Steps p.tables e below (T38.setTop (mkF m 48 #[.val (.ref a1), .val (.ref a2), .val (.int (1 : Int32)), .val (.int (0 : Int32))] [(.int (own_rk x2)), (.int (own_rk x1))])) _
            refine st39 _ ?_
            show Steps p.tables e below (T39.setTop (mkF m 51 #[.val (.ref a1), .val (.ref a2), .val (.int (1 : Int32)), .val (.int (0 : Int32))] [(.int (own_ic (own_rk x1) (own_rk x2)))])) _
            exact retOut X39 hx Bd.returns rfl (Or.inl ⟨rfl, Or.inl rfl, _, rfl⟩) (hb hby d10_51) hr
          · show Qcmp Z a1 a2 cc1 tt1 k01 ll1 vv1 (1 : Int32) x1 y1 cc2 tt2 k02 ll2 vv2 (1 : Int32) x2 y2 G1 fv h0 n0 _ T39.heap _
            rw [eh39]
            exact ⟨N39, rfl, (by unfold own_cmp; rw [if_pos ⟨(by decide : (0 : Int32) < own_mn (1 : Int32) (1 : Int32)), hcx31⟩])⟩
    · skip
      obtain ⟨cq40, kq40, q40a, q40b, q40c⟩ := isOf hZ e0 hE1
      obtain ⟨_, _, ⟨T40, L40, k40, n40⟩, -, X40, ⟨Lc40, hQ40, l40, y40, z40⟩, st40⟩ := X0.virtualBack hx (y := (⟨"java/lang/String", "length", "()I"⟩ : MethodName)) (z := (⟨"java/lang/String", "length", "()I"⟩ : MethodName)) hown (mvT hZ (own_k hw 49 rfl)) (mvT hZ (own_k hw 50 rfl)) (notFace_of_selects (args := #[]) (mvT hZ (own_k hw 52 rfl))) (mvT hZ (own_k hw 52 rfl)) (mvT hZ (own_k hw 51 rfl)) (by decide) (backOf (W := 0) (rmLen l Z a0 hw [] a1 cc1 tt1 k01 ll1 vv1 (1 : Int32) x1 y1 G1 h0 n0 Z0 hS (hG) hO hE1 hFc1 hFv1 hVv1 (hR1)) hZ (own_k hw 53 rfl) (own_k hw 7 rfl) (by decide) (by decide)) q40a q40c (g := (mkF m 1 #[.val (.ref a1), .val (.ref a2), .unset, .unset] [(.ref a1)])) rfl (by rw [hml]; rfl) (Steps.refl _) (argsL := []) (rest := []) (lenOf own_pd_16 rfl) rfl (by show 2 * 0 + _ ≤ _; exact Nat.le_of_eq rfl) (hb hby d10_1) (fun _ _ => ⟨rfl, e0, (by decide : 0 + 0 ≤ _), (by decide : 0 + 0 ≤ _)⟩)
      dsimp only [Pt.U, Pt.locs, Pt.cells, Pt.slots] at X40 l40 y40 z40 st40 hQ40
      subst l40
      subst y40 z40
      obtain ⟨Nq40, eh40, hv40⟩ := hQ40
      have N40 := Fr.app N0 Nq40
      subst hv40
      obtain ⟨cq41, kq41, q41a, q41b, q41c⟩ := isOf hZ eh40 hE2
      obtain ⟨_, _, ⟨T41, L41, k41, n41⟩, -, X41, ⟨Lc41, hQ41, l41, y41, z41⟩, st41⟩ := X40.virtualBack hx (y := (⟨"java/lang/String", "length", "()I"⟩ : MethodName)) (z := (⟨"java/lang/String", "length", "()I"⟩ : MethodName)) hown (mvT hZ (own_k hw 49 rfl)) (mvT hZ (own_k hw 50 rfl)) (notFace_of_selects (args := #[]) (mvT hZ (own_k hw 52 rfl))) (mvT hZ (own_k hw 52 rfl)) (mvT hZ (own_k hw 51 rfl)) (by decide) (backOf (W := 1) (rmLen l Z a0 hw [] a2 cc2 tt2 k02 ll2 vv2 (2 : Int32) x2 y2 G1 h0 n0 Z0 hS (hG) hO hE2 hFc2 hFv2 hVv2 (hR2)) hZ (own_k hw 53 rfl) (own_k hw 7 rfl) (by decide) (by decide)) q41a q41c (g := (mkF m 5 #[.val (.ref a1), .val (.ref a2), .unset, .unset] [(.ref a2), (.int (1 : Int32))])) rfl (by rw [hml]; rfl) (Steps.refl _) (argsL := []) (rest := [(.int (1 : Int32))]) (lenOf own_pd_16 rfl) rfl (by show 2 * 0 + _ ≤ _; exact Nat.le_of_eq rfl) (hb hby d10_5) (fun _ _ => ⟨rfl, eh40, (by decide : 0 + 0 ≤ _), (by decide : 0 + 0 ≤ _)⟩)
      dsimp only [Pt.U, Pt.locs, Pt.cells, Pt.slots] at X41 l41 y41 z41 st41 hQ41
      subst l41
      subst y41 z41
      obtain ⟨Nq41, eh41, hv41⟩ := hQ41
      have N41 := Fr.app N40 Nq41
      subst hv41
      obtain ⟨_, _, ⟨T42, L42, k42, n42⟩, -, X42, ⟨Lc42, hQ42, l42, y42, z42⟩, st42⟩ := Jvm.LawKit.callS X41 hx (y := (⟨"java/lang/Math", "min", "(II)I"⟩ : MethodName)) hown (mvT hZ (own_k hw 59 rfl)) (mvT hZ (own_k hw 39 rfl)) (mvT hZ (own_k hw 40 rfl)) (mvT hZ (own_k hw 41 rfl)) (by decide) (backOf (W := 0) (rmMo l Z a0 hw [] (1 : Int32) (2 : Int32) h0 n0 Z0 ) hZ (own_k hw 41 rfl) (own_k hw 40 rfl) (by decide) (by decide)) (g := (mkF m 8 #[.val (.ref a1), .val (.ref a2), .unset, .unset] [(.int (2 : Int32)), (.int (1 : Int32))])) rfl (by rw [hml]; rfl) (argsL := [(.int (1 : Int32)), (.int (2 : Int32))]) (rest := []) (lenOf own_pd_17 rfl) rfl (by show 2 * 0 + _ ≤ _; exact Nat.le_of_eq rfl) (hb hby d10_8) (fun _ _ => ⟨rfl, eh41, (by decide : 0 + 0 ≤ _), (by decide : 0 + 0 ≤ _)⟩)
      dsimp only [Pt.U, Pt.locs, Pt.cells, Pt.slots] at X42 l42 y42 z42 st42 hQ42
      subst l42
      subst y42 z42
      obtain ⟨Nq42, eh42, hv42⟩ := hQ42
      have N42 := Fr.app N41 Nq42
      rcases hv42 with ⟨hv42, hd42_0⟩ | ⟨hv42, hd42_0⟩
      · subst hv42
        exact absurd hd42_0 (by decide)
      · subst hv42
        obtain ⟨cq43, kq43, q43a, q43b, q43c⟩ := isOf hZ eh42 hE1
        obtain ⟨_, _, ⟨T43, L43, k43, n43⟩, -, X43, ⟨Lc43, hQ43, l43, y43, z43⟩, st43⟩ := X42.virtualBack hx (y := (⟨"java/lang/String", "charAt", "(I)C"⟩ : MethodName)) (z := (⟨"java/lang/String", "charAt", "(I)C"⟩ : MethodName)) hown (mvT hZ (own_k hw 87 rfl)) (mvT hZ (own_k hw 88 rfl)) (notFace_of_selects (args := #[]) (mvT hZ (own_k hw 90 rfl))) (mvT hZ (own_k hw 90 rfl)) (mvT hZ (own_k hw 89 rfl)) (by decide) (backOf (W := 0) (rmCa0 l Z a0 hw [] a1 cc1 tt1 k01 ll1 vv1 (1 : Int32) x1 y1 G1 fv h0 n0 Z0 hS (hG) hSa hSh hSl hSf (hfr) hO hE1 hFc1 hFv1 hVv1 (hR1) (by decide) (hHx1)) hZ (own_k hw 91 rfl) (own_k hw 7 rfl) (by decide) (by decide)) q43a q43c (g := (mkF m 21 #[.val (.ref a1), .val (.ref a2), .val (.int (1 : Int32)), .val (.int (0 : Int32))] [(.int (0 : Int32)), (.ref a1)])) rfl (by rw [hml]; rfl) (Steps.refl _) (argsL := [(.int (0 : Int32))]) (rest := []) (lenOf own_pd_18 rfl) rfl (by show 2 * 0 + _ ≤ _; exact Nat.le_of_eq rfl) (hb hby d10_21) (fun _ _ => ⟨rfl, eh42, (by decide : 0 + 0 ≤ _), (by decide : 0 + 0 ≤ _)⟩)
        dsimp only [Pt.U, Pt.locs, Pt.cells, Pt.slots] at X43 l43 y43 z43 st43 hQ43
        subst l43
        subst y43 z43
        obtain ⟨Nq43, eh43, hv43⟩ := hQ43
        have N43 := Fr.app N42 Nq43
        subst hv43
        obtain ⟨cq44, kq44, q44a, q44b, q44c⟩ := isOf hZ eh43 hE2
        obtain ⟨_, _, ⟨T44, L44, k44, n44⟩, -, X44, ⟨Lc44, hQ44, l44, y44, z44⟩, st44⟩ := X43.virtualBack hx (y := (⟨"java/lang/String", "charAt", "(I)C"⟩ : MethodName)) (z := (⟨"java/lang/String", "charAt", "(I)C"⟩ : MethodName)) hown (mvT hZ (own_k hw 87 rfl)) (mvT hZ (own_k hw 88 rfl)) (notFace_of_selects (args := #[]) (mvT hZ (own_k hw 90 rfl))) (mvT hZ (own_k hw 90 rfl)) (mvT hZ (own_k hw 89 rfl)) (by decide) (backOf (W := 1) (rmCa0 l Z a0 hw [] a2 cc2 tt2 k02 ll2 vv2 (2 : Int32) x2 y2 G1 fv h0 n0 Z0 hS (hG) hSa hSh hSl hSf (hfr) hO hE2 hFc2 hFv2 hVv2 (hR2) (by decide) (hHx2)) hZ (own_k hw 91 rfl) (own_k hw 7 rfl) (by decide) (by decide)) q44a q44c (g := (mkF m 26 #[.val (.ref a1), .val (.ref a2), .val (.int (1 : Int32)), .val (.int (0 : Int32))] [(.int (0 : Int32)), (.ref a2), (.int x1)])) rfl (by rw [hml]; rfl) (Steps.refl _) (argsL := [(.int (0 : Int32))]) (rest := [(.int x1)]) (lenOf own_pd_18 rfl) rfl (by show 2 * 0 + _ ≤ _; exact Nat.le_of_eq rfl) (hb hby d10_26) (fun _ _ => ⟨rfl, eh43, (by decide : 0 + 0 ≤ _), (by decide : 0 + 0 ≤ _)⟩)
        dsimp only [Pt.U, Pt.locs, Pt.cells, Pt.slots] at X44 l44 y44 z44 st44 hQ44
        subst l44
        subst y44 z44
        obtain ⟨Nq44, eh44, hv44⟩ := hQ44
        have N44 := Fr.app N43 Nq44
        subst hv44
        have pre45 : ∀ t, Steps p.tables e below (T44.setTop (mkF m 29 #[.val (.ref a1), .val (.ref a2), .val (.int (1 : Int32)), .val (.int (0 : Int32))] [(.int x2), (.int x1)])) t → Steps p.tables e below (s₁.setTop (entryFrame m #[(.ref a1), (.ref a2)] 4)) t := fun t kt => pre0 t (by
          show Steps p.tables e below (s₁.setTop (mkF m 0 #[.val (.ref a1), .val (.ref a2), .unset, .unset] [])) _
          refine XS.aloadN X0.here hx rfl (hb hby d10_0) rfl rfl ?_
          show Steps p.tables e below (s₁.setTop (mkF m 1 #[.val (.ref a1), .val (.ref a2), .unset, .unset] [(.ref a1)])) _
          refine st40.trans ?_
          show Steps p.tables e below (T40.setTop (mkF m 4 #[.val (.ref a1), .val (.ref a2), .unset, .unset] [(.int (1 : Int32))])) _
          refine XS.aloadN X40.here hx rfl (hb hby d10_4) rfl rfl ?_
          show Steps p.tables e below (T40.setTop (mkF m 5 #[.val (.ref a1), .val (.ref a2), .unset, .unset] [(.ref a2), (.int (1 : Int32))])) _
          refine st41.trans ?_
          show Steps p.tables e below (T41.setTop (mkF m 8 #[.val (.ref a1), .val (.ref a2), .unset, .unset] [(.int (2 : Int32)), (.int (1 : Int32))])) _
          refine st42 _ ?_
          show Steps p.tables e below (T42.setTop (mkF m 11 #[.val (.ref a1), .val (.ref a2), .unset, .unset] [(.int (1 : Int32))])) _
          refine XS.istoreN X42.here hx rfl (hb hby d10_11) rfl (l' := #[.val (.ref a1), .val (.ref a2), .val (.int (1 : Int32)), .unset]) rfl ?_
          show Steps p.tables e below (T42.setTop (mkF m 12 #[.val (.ref a1), .val (.ref a2), .val (.int (1 : Int32)), .unset] [])) _
          refine XS.iconst X42.here hx rfl (hb hby d10_12) ?_
          show Steps p.tables e below (T42.setTop (mkF m 13 #[.val (.ref a1), .val (.ref a2), .val (.int (1 : Int32)), .unset] [(.int (0 : Int32))])) _
          refine XS.istoreN X42.here hx rfl (hb hby d10_13) rfl (l' := #[.val (.ref a1), .val (.ref a2), .val (.int (1 : Int32)), .val (.int (0 : Int32))]) rfl ?_
          show Steps p.tables e below (T42.setTop (mkF m 14 #[.val (.ref a1), .val (.ref a2), .val (.int (1 : Int32)), .val (.int (0 : Int32))] [])) _
          refine XS.iloadN X42.here hx rfl (hb hby d10_14) rfl ?_
          show Steps p.tables e below (T42.setTop (mkF m 15 #[.val (.ref a1), .val (.ref a2), .val (.int (1 : Int32)), .val (.int (0 : Int32))] [(.int (0 : Int32))])) _
          refine XS.iloadN X42.here hx rfl (hb hby d10_15) rfl ?_
          show Steps p.tables e below (T42.setTop (mkF m 16 #[.val (.ref a1), .val (.ref a2), .val (.int (1 : Int32)), .val (.int (0 : Int32))] [(.int (1 : Int32)), (.int (0 : Int32))])) _
          refine XS.icmpNo X42.here hx rfl (hb hby d10_16) rfl (by decide) ?_
          show Steps p.tables e below (T42.setTop (mkF m 19 #[.val (.ref a1), .val (.ref a2), .val (.int (1 : Int32)), .val (.int (0 : Int32))] [])) _
          refine XS.aloadN X42.here hx rfl (hb hby d10_19) rfl rfl ?_
          show Steps p.tables e below (T42.setTop (mkF m 20 #[.val (.ref a1), .val (.ref a2), .val (.int (1 : Int32)), .val (.int (0 : Int32))] [(.ref a1)])) _
          refine XS.iloadN X42.here hx rfl (hb hby d10_20) rfl ?_
          show Steps p.tables e below (T42.setTop (mkF m 21 #[.val (.ref a1), .val (.ref a2), .val (.int (1 : Int32)), .val (.int (0 : Int32))] [(.int (0 : Int32)), (.ref a1)])) _
          refine st43.trans ?_
          show Steps p.tables e below (T43.setTop (mkF m 24 #[.val (.ref a1), .val (.ref a2), .val (.int (1 : Int32)), .val (.int (0 : Int32))] [(.int x1)])) _
          refine XS.aloadN X43.here hx rfl (hb hby d10_24) rfl rfl ?_
          show Steps p.tables e below (T43.setTop (mkF m 25 #[.val (.ref a1), .val (.ref a2), .val (.int (1 : Int32)), .val (.int (0 : Int32))] [(.ref a2), (.int x1)])) _
          refine XS.iloadN X43.here hx rfl (hb hby d10_25) rfl ?_
          show Steps p.tables e below (T43.setTop (mkF m 26 #[.val (.ref a1), .val (.ref a2), .val (.int (1 : Int32)), .val (.int (0 : Int32))] [(.int (0 : Int32)), (.ref a2), (.int x1)])) _
          refine st44.trans ?_
          exact kt)
        by_cases hcx46 : x1 = x2
        · skip
          obtain ⟨cq47, kq47, q47a, q47b, q47c⟩ := isOf hZ eh44 hE1
          obtain ⟨_, _, ⟨T47, L47, k47, n47⟩, -, X47, ⟨Lc47, hQ47, l47, y47, z47⟩, st47⟩ := X44.virtualBack hx (y := (⟨"java/lang/String", "length", "()I"⟩ : MethodName)) (z := (⟨"java/lang/String", "length", "()I"⟩ : MethodName)) hown (mvT hZ (own_k hw 49 rfl)) (mvT hZ (own_k hw 50 rfl)) (notFace_of_selects (args := #[]) (mvT hZ (own_k hw 52 rfl))) (mvT hZ (own_k hw 52 rfl)) (mvT hZ (own_k hw 51 rfl)) (by decide) (backOf (W := 0) (rmLen l Z a0 hw [] a1 cc1 tt1 k01 ll1 vv1 (1 : Int32) x1 y1 G1 h0 n0 Z0 hS (hG) hO hE1 hFc1 hFv1 hVv1 (hR1)) hZ (own_k hw 53 rfl) (own_k hw 7 rfl) (by decide) (by decide)) q47a q47c (g := (mkF m 59 #[.val (.ref a1), .val (.ref a2), .val (.int (1 : Int32)), .val (.int (1 : Int32))] [(.ref a1)])) rfl (by rw [hml]; rfl) (Steps.refl _) (argsL := []) (rest := []) (lenOf own_pd_16 rfl) rfl (by show 2 * 0 + _ ≤ _; exact Nat.le_of_eq rfl) (hb hby d10_59) (fun _ _ => ⟨rfl, eh44, (by decide : 0 + 0 ≤ _), (by decide : 0 + 0 ≤ _)⟩)
          dsimp only [Pt.U, Pt.locs, Pt.cells, Pt.slots] at X47 l47 y47 z47 st47 hQ47
          subst l47
          subst y47 z47
          obtain ⟨Nq47, eh47, hv47⟩ := hQ47
          have N47 := Fr.app N44 Nq47
          subst hv47
          obtain ⟨cq48, kq48, q48a, q48b, q48c⟩ := isOf hZ eh47 hE2
          obtain ⟨_, _, ⟨T48, L48, k48, n48⟩, -, X48, ⟨Lc48, hQ48, l48, y48, z48⟩, st48⟩ := X47.virtualBack hx (y := (⟨"java/lang/String", "length", "()I"⟩ : MethodName)) (z := (⟨"java/lang/String", "length", "()I"⟩ : MethodName)) hown (mvT hZ (own_k hw 49 rfl)) (mvT hZ (own_k hw 50 rfl)) (notFace_of_selects (args := #[]) (mvT hZ (own_k hw 52 rfl))) (mvT hZ (own_k hw 52 rfl)) (mvT hZ (own_k hw 51 rfl)) (by decide) (backOf (W := 1) (rmLen l Z a0 hw [] a2 cc2 tt2 k02 ll2 vv2 (2 : Int32) x2 y2 G1 h0 n0 Z0 hS (hG) hO hE2 hFc2 hFv2 hVv2 (hR2)) hZ (own_k hw 53 rfl) (own_k hw 7 rfl) (by decide) (by decide)) q48a q48c (g := (mkF m 63 #[.val (.ref a1), .val (.ref a2), .val (.int (1 : Int32)), .val (.int (1 : Int32))] [(.ref a2), (.int (1 : Int32))])) rfl (by rw [hml]; rfl) (Steps.refl _) (argsL := []) (rest := [(.int (1 : Int32))]) (lenOf own_pd_16 rfl) rfl (by show 2 * 0 + _ ≤ _; exact Nat.le_of_eq rfl) (hb hby d10_63) (fun _ _ => ⟨rfl, eh47, (by decide : 0 + 0 ≤ _), (by decide : 0 + 0 ≤ _)⟩)
          dsimp only [Pt.U, Pt.locs, Pt.cells, Pt.slots] at X48 l48 y48 z48 st48 hQ48
          subst l48
          subst y48 z48
          obtain ⟨Nq48, eh48, hv48⟩ := hQ48
          have N48 := Fr.app N47 Nq48
          subst hv48
          obtain ⟨_, _, ⟨T49, L49, k49, n49⟩, -, X49, ⟨Lc49, hQ49, l49, y49, z49⟩, st49⟩ := Jvm.LawKit.callS X48 hx (y := (⟨"java/lang/Integer", "compare", "(II)I"⟩ : MethodName)) hown (mvT hZ (own_k hw 60 rfl)) (mvT hZ (own_k hw 61 rfl)) (mvT hZ (own_k hw 62 rfl)) (mvT hZ (own_k hw 63 rfl)) (by decide) (backOf (W := 0) (rmIc l Z a0 hw [] (1 : Int32) (2 : Int32) h0 n0 Z0 ) hZ (own_k hw 63 rfl) (own_k hw 62 rfl) (by decide) (by decide)) (g := (mkF m 66 #[.val (.ref a1), .val (.ref a2), .val (.int (1 : Int32)), .val (.int (1 : Int32))] [(.int (2 : Int32)), (.int (1 : Int32))])) rfl (by rw [hml]; rfl) (argsL := [(.int (1 : Int32)), (.int (2 : Int32))]) (rest := []) (lenOf own_pd_17 rfl) rfl (by show 2 * 0 + _ ≤ _; exact Nat.le_of_eq rfl) (hb hby d10_66) (fun _ _ => ⟨rfl, eh48, (by decide : 0 + 0 ≤ _), (by decide : 0 + 0 ≤ _)⟩)
          dsimp only [Pt.U, Pt.locs, Pt.cells, Pt.slots] at X49 l49 y49 z49 st49 hQ49
          subst l49
          subst y49 z49
          obtain ⟨Nq49, eh49, hv49⟩ := hQ49
          have N49 := Fr.app N48 Nq49
          subst hv49
          obtain ⟨fs, hr, hrun, hended, hW, hsame⟩ := X49.leave (v := (some (.int (own_ic (1 : Int32) (2 : Int32))))) (fun h => by rw [Bd.returns] at h; cases h)
          refine ⟨_, _, pre45 _ ?_, hrun, hended, _, _, rfl, ?_, ⟨_, rfl⟩, hW, hsame.mono (by decide) (by decide)⟩
          · show Steps p.tables e below (T44.setTop (mkF m 29 #[.val (.ref a1), .val (.ref a2), .val (.int (1 : Int32)), .val (.int (0 : Int32))] [(.int x2), (.int x1)])) _
            refine XS.icmpYes X44.here hx rfl (pc0 := 29) (pc' := 52) rfl (hb hby d10_29) rfl (teq hcx46).1 (by decide) (by decide) ?_
            show Steps p.tables e below (T44.setTop (mkF m 52 #[.val (.ref a1), .val (.ref a2), .val (.int (1 : Int32)), .val (.int (0 : Int32))] [])) _
            refine XS.iinc X44.here hx rfl (hb hby d10_52) rfl (l' := #[.val (.ref a1), .val (.ref a2), .val (.int (1 : Int32)), .val (.int (1 : Int32))]) rfl ?_
            show Steps p.tables e below (T44.setTop (mkF m 55 #[.val (.ref a1), .val (.ref a2), .val (.int (1 : Int32)), .val (.int (1 : Int32))] [])) _
            refine XS.goto X44.here hx rfl (pc0 := 55) (pc' := 14) rfl (hb hby d10_55) (by decide) (by decide) ?_
            show Steps p.tables e below (T44.setTop (mkF m 14 #[.val (.ref a1), .val (.ref a2), .val (.int (1 : Int32)), .val (.int (1 : Int32))] [])) _
            refine XS.iloadN X44.here hx rfl (hb hby d10_14) rfl ?_
            show Steps p.tables e below (T44.setTop (mkF m 15 #[.val (.ref a1), .val (.ref a2), .val (.int (1 : Int32)), .val (.int (1 : Int32))] [(.int (1 : Int32))])) _
            refine XS.iloadN X44.here hx rfl (hb hby d10_15) rfl ?_
            show Steps p.tables e below (T44.setTop (mkF m 16 #[.val (.ref a1), .val (.ref a2), .val (.int (1 : Int32)), .val (.int (1 : Int32))] [(.int (1 : Int32)), (.int (1 : Int32))])) _
            refine XS.icmpYes X44.here hx rfl (pc0 := 16) (pc' := 58) rfl (hb hby d10_16) rfl (by decide) (by decide) (by decide) ?_
            show Steps p.tables e below (T44.setTop (mkF m 58 #[.val (.ref a1), .val (.ref a2), .val (.int (1 : Int32)), .val (.int (1 : Int32))] [])) _
            refine XS.aloadN X44.here hx rfl (hb hby d10_58) rfl rfl ?_
            show Steps p.tables e below (T44.setTop (mkF m 59 #[.val (.ref a1), .val (.ref a2), .val (.int (1 : Int32)), .val (.int (1 : Int32))] [(.ref a1)])) _
            refine st47.trans ?_
            show Steps p.tables e below (T47.setTop (mkF m 62 #[.val (.ref a1), .val (.ref a2), .val (.int (1 : Int32)), .val (.int (1 : Int32))] [(.int (1 : Int32))])) _
            refine XS.aloadN X47.here hx rfl (hb hby d10_62) rfl rfl ?_
            show Steps p.tables e below (T47.setTop (mkF m 63 #[.val (.ref a1), .val (.ref a2), .val (.int (1 : Int32)), .val (.int (1 : Int32))] [(.ref a2), (.int (1 : Int32))])) _
            refine st48.trans ?_
            show Steps p.tables e below (T48.setTop (mkF m 66 #[.val (.ref a1), .val (.ref a2), .val (.int (1 : Int32)), .val (.int (1 : Int32))] [(.int (2 : Int32)), (.int (1 : Int32))])) _
            refine st49 _ ?_
            show Steps p.tables e below (T49.setTop (mkF m 69 #[.val (.ref a1), .val (.ref a2), .val (.int (1 : Int32)), .val (.int (1 : Int32))] [(.int (own_ic (1 : Int32) (2 : Int32)))])) _
            exact retOut X49 hx Bd.returns rfl (Or.inl ⟨rfl, Or.inl rfl, _, rfl⟩) (hb hby d10_69) hr
          · show Qcmp Z a1 a2 cc1 tt1 k01 ll1 vv1 (1 : Int32) x1 y1 cc2 tt2 k02 ll2 vv2 (2 : Int32) x2 y2 G1 fv h0 n0 _ T49.heap _
            rw [eh49]
            exact ⟨N49, rfl, (by unfold own_cmp; rw [if_neg (fun q => q.2 hcx46), if_neg (fun q => (by decide : ¬ (1 : Int32) < own_mn (1 : Int32) (2 : Int32)) q.1)])⟩
        · skip
          obtain ⟨cq50, kq50, q50a, q50b, q50c⟩ := isOf hZ eh44 hE1
          obtain ⟨_, _, ⟨T50, L50, k50, n50⟩, -, X50, ⟨Lc50, hQ50, l50, y50, z50⟩, st50⟩ := X44.virtualBack hx (y := (⟨"java/lang/String", "charAt", "(I)C"⟩ : MethodName)) (z := (⟨"java/lang/String", "charAt", "(I)C"⟩ : MethodName)) hown (mvT hZ (own_k hw 87 rfl)) (mvT hZ (own_k hw 88 rfl)) (notFace_of_selects (args := #[]) (mvT hZ (own_k hw 90 rfl))) (mvT hZ (own_k hw 90 rfl)) (mvT hZ (own_k hw 89 rfl)) (by decide) (backOf (W := 0) (rmCa0 l Z a0 hw [] a1 cc1 tt1 k01 ll1 vv1 (1 : Int32) x1 y1 G1 fv h0 n0 Z0 hS (hG) hSa hSh hSl hSf (hfr) hO hE1 hFc1 hFv1 hVv1 (hR1) (by decide) (hHx1)) hZ (own_k hw 91 rfl) (own_k hw 7 rfl) (by decide) (by decide)) q50a q50c (g := (mkF m 34 #[.val (.ref a1), .val (.ref a2), .val (.int (1 : Int32)), .val (.int (0 : Int32))] [(.int (0 : Int32)), (.ref a1)])) rfl (by rw [hml]; rfl) (Steps.refl _) (argsL := [(.int (0 : Int32))]) (rest := []) (lenOf own_pd_18 rfl) rfl (by show 2 * 0 + _ ≤ _; exact Nat.le_of_eq rfl) (hb hby d10_34) (fun _ _ => ⟨rfl, eh44, (by decide : 0 + 0 ≤ _), (by decide : 0 + 0 ≤ _)⟩)
          dsimp only [Pt.U, Pt.locs, Pt.cells, Pt.slots] at X50 l50 y50 z50 st50 hQ50
          subst l50
          subst y50 z50
          obtain ⟨Nq50, eh50, hv50⟩ := hQ50
          have N50 := Fr.app N44 Nq50
          subst hv50
          obtain ⟨_, _, ⟨T51, L51, k51, n51⟩, -, X51, ⟨Lc51, hQ51, l51, y51, z51⟩, st51⟩ := Jvm.LawKit.callS X50 hx (y := (⟨"com/example/topics_into_queries/topicsintoqueries/CodePoints", "rank", "(C)I"⟩ : MethodName)) hown (mvT hZ (own_k hw 114 rfl)) (mvT hZ (own_k hw 115 rfl)) (mvT hZ (own_k hw 47 rfl)) (mvT hZ (own_k hw 116 rfl)) (by decide) (backOf (W := 0) (rmRk l Z a0 hw [] x1 h0 n0 Z0 ) hZ (own_k hw 116 rfl) (own_k hw 47 rfl) (by decide) (by decide)) (g := (mkF m 37 #[.val (.ref a1), .val (.ref a2), .val (.int (1 : Int32)), .val (.int (0 : Int32))] [(.int x1)])) rfl (by rw [hml]; rfl) (argsL := [(.int x1)]) (rest := []) (lenOf own_pd_19 rfl) rfl (by show 2 * 0 + _ ≤ _; exact Nat.le_of_eq rfl) (hb hby d10_37) (fun _ _ => ⟨rfl, eh50, (by decide : 0 + 0 ≤ _), (by decide : 0 + 0 ≤ _)⟩)
          dsimp only [Pt.U, Pt.locs, Pt.cells, Pt.slots] at X51 l51 y51 z51 st51 hQ51
          subst l51
          subst y51 z51
          obtain ⟨Nq51, eh51, hv51⟩ := hQ51
          have N51 := Fr.app N50 Nq51
          subst hv51
          obtain ⟨cq52, kq52, q52a, q52b, q52c⟩ := isOf hZ eh51 hE2
          obtain ⟨_, _, ⟨T52, L52, k52, n52⟩, -, X52, ⟨Lc52, hQ52, l52, y52, z52⟩, st52⟩ := X51.virtualBack hx (y := (⟨"java/lang/String", "charAt", "(I)C"⟩ : MethodName)) (z := (⟨"java/lang/String", "charAt", "(I)C"⟩ : MethodName)) hown (mvT hZ (own_k hw 87 rfl)) (mvT hZ (own_k hw 88 rfl)) (notFace_of_selects (args := #[]) (mvT hZ (own_k hw 90 rfl))) (mvT hZ (own_k hw 90 rfl)) (mvT hZ (own_k hw 89 rfl)) (by decide) (backOf (W := 1) (rmCa0 l Z a0 hw [] a2 cc2 tt2 k02 ll2 vv2 (2 : Int32) x2 y2 G1 fv h0 n0 Z0 hS (hG) hSa hSh hSl hSf (hfr) hO hE2 hFc2 hFv2 hVv2 (hR2) (by decide) (hHx2)) hZ (own_k hw 91 rfl) (own_k hw 7 rfl) (by decide) (by decide)) q52a q52c (g := (mkF m 42 #[.val (.ref a1), .val (.ref a2), .val (.int (1 : Int32)), .val (.int (0 : Int32))] [(.int (0 : Int32)), (.ref a2), (.int (own_rk x1))])) rfl (by rw [hml]; rfl) (Steps.refl _) (argsL := [(.int (0 : Int32))]) (rest := [(.int (own_rk x1))]) (lenOf own_pd_18 rfl) rfl (by show 2 * 0 + _ ≤ _; exact Nat.le_of_eq rfl) (hb hby d10_42) (fun _ _ => ⟨rfl, eh51, (by decide : 0 + 0 ≤ _), (by decide : 0 + 0 ≤ _)⟩)
          dsimp only [Pt.U, Pt.locs, Pt.cells, Pt.slots] at X52 l52 y52 z52 st52 hQ52
          subst l52
          subst y52 z52
          obtain ⟨Nq52, eh52, hv52⟩ := hQ52
          have N52 := Fr.app N51 Nq52
          subst hv52
          obtain ⟨_, _, ⟨T53, L53, k53, n53⟩, -, X53, ⟨Lc53, hQ53, l53, y53, z53⟩, st53⟩ := Jvm.LawKit.callS X52 hx (y := (⟨"com/example/topics_into_queries/topicsintoqueries/CodePoints", "rank", "(C)I"⟩ : MethodName)) hown (mvT hZ (own_k hw 114 rfl)) (mvT hZ (own_k hw 115 rfl)) (mvT hZ (own_k hw 47 rfl)) (mvT hZ (own_k hw 116 rfl)) (by decide) (backOf (W := 1) (rmRk l Z a0 hw [] x2 h0 n0 Z0 ) hZ (own_k hw 116 rfl) (own_k hw 47 rfl) (by decide) (by decide)) (g := (mkF m 45 #[.val (.ref a1), .val (.ref a2), .val (.int (1 : Int32)), .val (.int (0 : Int32))] [(.int x2), (.int (own_rk x1))])) rfl (by rw [hml]; rfl) (argsL := [(.int x2)]) (rest := [(.int (own_rk x1))]) (lenOf own_pd_19 rfl) rfl (by show 2 * 0 + _ ≤ _; exact Nat.le_of_eq rfl) (hb hby d10_45) (fun _ _ => ⟨rfl, eh52, (by decide : 0 + 0 ≤ _), (by decide : 0 + 0 ≤ _)⟩)
          dsimp only [Pt.U, Pt.locs, Pt.cells, Pt.slots] at X53 l53 y53 z53 st53 hQ53
          subst l53
          subst y53 z53
          obtain ⟨Nq53, eh53, hv53⟩ := hQ53
          have N53 := Fr.app N52 Nq53
          subst hv53
          obtain ⟨_, _, ⟨T54, L54, k54, n54⟩, -, X54, ⟨Lc54, hQ54, l54, y54, z54⟩, st54⟩ := Jvm.LawKit.callS X53 hx (y := (⟨"java/lang/Integer", "compare", "(II)I"⟩ : MethodName)) hown (mvT hZ (own_k hw 60 rfl)) (mvT hZ (own_k hw 61 rfl)) (mvT hZ (own_k hw 62 rfl)) (mvT hZ (own_k hw 63 rfl)) (by decide) (backOf (W := 0) (rmIc l Z a0 hw [] (own_rk x1) (own_rk x2) h0 n0 Z0 ) hZ (own_k hw 63 rfl) (own_k hw 62 rfl) (by decide) (by decide)) (g := (mkF m 48 #[.val (.ref a1), .val (.ref a2), .val (.int (1 : Int32)), .val (.int (0 : Int32))] [(.int (own_rk x2)), (.int (own_rk x1))])) rfl (by rw [hml]; rfl) (argsL := [(.int (own_rk x1)), (.int (own_rk x2))]) (rest := []) (lenOf own_pd_17 rfl) rfl (by show 2 * 0 + _ ≤ _; exact Nat.le_of_eq rfl) (hb hby d10_48) (fun _ _ => ⟨rfl, eh53, (by decide : 0 + 0 ≤ _), (by decide : 0 + 0 ≤ _)⟩)
          dsimp only [Pt.U, Pt.locs, Pt.cells, Pt.slots] at X54 l54 y54 z54 st54 hQ54
          subst l54
          subst y54 z54
          obtain ⟨Nq54, eh54, hv54⟩ := hQ54
          have N54 := Fr.app N53 Nq54
          subst hv54
          obtain ⟨fs, hr, hrun, hended, hW, hsame⟩ := X54.leave (v := (some (.int (own_ic (own_rk x1) (own_rk x2))))) (fun h => by rw [Bd.returns] at h; cases h)
          refine ⟨_, _, pre45 _ ?_, hrun, hended, _, _, rfl, ?_, ⟨_, rfl⟩, hW, hsame.mono (by decide) (by decide)⟩
          · show Steps p.tables e below (T44.setTop (mkF m 29 #[.val (.ref a1), .val (.ref a2), .val (.int (1 : Int32)), .val (.int (0 : Int32))] [(.int x2), (.int x1)])) _
            refine XS.icmpNo X44.here hx rfl (hb hby d10_29) rfl (feq hcx46).1 ?_
            show Steps p.tables e below (T44.setTop (mkF m 32 #[.val (.ref a1), .val (.ref a2), .val (.int (1 : Int32)), .val (.int (0 : Int32))] [])) _
            refine XS.aloadN X44.here hx rfl (hb hby d10_32) rfl rfl ?_
            show Steps p.tables e below (T44.setTop (mkF m 33 #[.val (.ref a1), .val (.ref a2), .val (.int (1 : Int32)), .val (.int (0 : Int32))] [(.ref a1)])) _
            refine XS.iloadN X44.here hx rfl (hb hby d10_33) rfl ?_
            show Steps p.tables e below (T44.setTop (mkF m 34 #[.val (.ref a1), .val (.ref a2), .val (.int (1 : Int32)), .val (.int (0 : Int32))] [(.int (0 : Int32)), (.ref a1)])) _
            refine st50.trans ?_
            show Steps p.tables e below (T50.setTop (mkF m 37 #[.val (.ref a1), .val (.ref a2), .val (.int (1 : Int32)), .val (.int (0 : Int32))] [(.int x1)])) _
            refine st51 _ ?_
            show Steps p.tables e below (T51.setTop (mkF m 40 #[.val (.ref a1), .val (.ref a2), .val (.int (1 : Int32)), .val (.int (0 : Int32))] [(.int (own_rk x1))])) _
            refine XS.aloadN X51.here hx rfl (hb hby d10_40) rfl rfl ?_
            show Steps p.tables e below (T51.setTop (mkF m 41 #[.val (.ref a1), .val (.ref a2), .val (.int (1 : Int32)), .val (.int (0 : Int32))] [(.ref a2), (.int (own_rk x1))])) _
            refine XS.iloadN X51.here hx rfl (hb hby d10_41) rfl ?_
            show Steps p.tables e below (T51.setTop (mkF m 42 #[.val (.ref a1), .val (.ref a2), .val (.int (1 : Int32)), .val (.int (0 : Int32))] [(.int (0 : Int32)), (.ref a2), (.int (own_rk x1))])) _
            refine st52.trans ?_
            show Steps p.tables e below (T52.setTop (mkF m 45 #[.val (.ref a1), .val (.ref a2), .val (.int (1 : Int32)), .val (.int (0 : Int32))] [(.int x2), (.int (own_rk x1))])) _
            refine st53 _ ?_
            show Steps p.tables e below (T53.setTop (mkF m 48 #[.val (.ref a1), .val (.ref a2), .val (.int (1 : Int32)), .val (.int (0 : Int32))] [(.int (own_rk x2)), (.int (own_rk x1))])) _
            refine st54 _ ?_
            show Steps p.tables e below (T54.setTop (mkF m 51 #[.val (.ref a1), .val (.ref a2), .val (.int (1 : Int32)), .val (.int (0 : Int32))] [(.int (own_ic (own_rk x1) (own_rk x2)))])) _
            exact retOut X54 hx Bd.returns rfl (Or.inl ⟨rfl, Or.inl rfl, _, rfl⟩) (hb hby d10_51) hr
          · show Qcmp Z a1 a2 cc1 tt1 k01 ll1 vv1 (1 : Int32) x1 y1 cc2 tt2 k02 ll2 vv2 (2 : Int32) x2 y2 G1 fv h0 n0 _ T54.heap _
            rw [eh54]
            exact ⟨N54, rfl, (by unfold own_cmp; rw [if_pos ⟨(by decide : (0 : Int32) < own_mn (1 : Int32) (2 : Int32)), hcx46⟩])⟩
  · skip
    rcases own_RepN hR2 with rfl | rfl | rfl
    · skip
      obtain ⟨cq55, kq55, q55a, q55b, q55c⟩ := isOf hZ e0 hE1
      obtain ⟨_, _, ⟨T55, L55, k55, n55⟩, -, X55, ⟨Lc55, hQ55, l55, y55, z55⟩, st55⟩ := X0.virtualBack hx (y := (⟨"java/lang/String", "length", "()I"⟩ : MethodName)) (z := (⟨"java/lang/String", "length", "()I"⟩ : MethodName)) hown (mvT hZ (own_k hw 49 rfl)) (mvT hZ (own_k hw 50 rfl)) (notFace_of_selects (args := #[]) (mvT hZ (own_k hw 52 rfl))) (mvT hZ (own_k hw 52 rfl)) (mvT hZ (own_k hw 51 rfl)) (by decide) (backOf (W := 0) (rmLen l Z a0 hw [] a1 cc1 tt1 k01 ll1 vv1 (2 : Int32) x1 y1 G1 h0 n0 Z0 hS (hG) hO hE1 hFc1 hFv1 hVv1 (hR1)) hZ (own_k hw 53 rfl) (own_k hw 7 rfl) (by decide) (by decide)) q55a q55c (g := (mkF m 1 #[.val (.ref a1), .val (.ref a2), .unset, .unset] [(.ref a1)])) rfl (by rw [hml]; rfl) (Steps.refl _) (argsL := []) (rest := []) (lenOf own_pd_16 rfl) rfl (by show 2 * 0 + _ ≤ _; exact Nat.le_of_eq rfl) (hb hby d10_1) (fun _ _ => ⟨rfl, e0, (by decide : 0 + 0 ≤ _), (by decide : 0 + 0 ≤ _)⟩)
      dsimp only [Pt.U, Pt.locs, Pt.cells, Pt.slots] at X55 l55 y55 z55 st55 hQ55
      subst l55
      subst y55 z55
      obtain ⟨Nq55, eh55, hv55⟩ := hQ55
      have N55 := Fr.app N0 Nq55
      subst hv55
      obtain ⟨cq56, kq56, q56a, q56b, q56c⟩ := isOf hZ eh55 hE2
      obtain ⟨_, _, ⟨T56, L56, k56, n56⟩, -, X56, ⟨Lc56, hQ56, l56, y56, z56⟩, st56⟩ := X55.virtualBack hx (y := (⟨"java/lang/String", "length", "()I"⟩ : MethodName)) (z := (⟨"java/lang/String", "length", "()I"⟩ : MethodName)) hown (mvT hZ (own_k hw 49 rfl)) (mvT hZ (own_k hw 50 rfl)) (notFace_of_selects (args := #[]) (mvT hZ (own_k hw 52 rfl))) (mvT hZ (own_k hw 52 rfl)) (mvT hZ (own_k hw 51 rfl)) (by decide) (backOf (W := 1) (rmLen l Z a0 hw [] a2 cc2 tt2 k02 ll2 vv2 (0 : Int32) x2 y2 G1 h0 n0 Z0 hS (hG) hO hE2 hFc2 hFv2 hVv2 (hR2)) hZ (own_k hw 53 rfl) (own_k hw 7 rfl) (by decide) (by decide)) q56a q56c (g := (mkF m 5 #[.val (.ref a1), .val (.ref a2), .unset, .unset] [(.ref a2), (.int (2 : Int32))])) rfl (by rw [hml]; rfl) (Steps.refl _) (argsL := []) (rest := [(.int (2 : Int32))]) (lenOf own_pd_16 rfl) rfl (by show 2 * 0 + _ ≤ _; exact Nat.le_of_eq rfl) (hb hby d10_5) (fun _ _ => ⟨rfl, eh55, (by decide : 0 + 0 ≤ _), (by decide : 0 + 0 ≤ _)⟩)
      dsimp only [Pt.U, Pt.locs, Pt.cells, Pt.slots] at X56 l56 y56 z56 st56 hQ56
      subst l56
      subst y56 z56
      obtain ⟨Nq56, eh56, hv56⟩ := hQ56
      have N56 := Fr.app N55 Nq56
      subst hv56
      obtain ⟨_, _, ⟨T57, L57, k57, n57⟩, -, X57, ⟨Lc57, hQ57, l57, y57, z57⟩, st57⟩ := Jvm.LawKit.callS X56 hx (y := (⟨"java/lang/Math", "min", "(II)I"⟩ : MethodName)) hown (mvT hZ (own_k hw 59 rfl)) (mvT hZ (own_k hw 39 rfl)) (mvT hZ (own_k hw 40 rfl)) (mvT hZ (own_k hw 41 rfl)) (by decide) (backOf (W := 0) (rmMo l Z a0 hw [] (2 : Int32) (0 : Int32) h0 n0 Z0 ) hZ (own_k hw 41 rfl) (own_k hw 40 rfl) (by decide) (by decide)) (g := (mkF m 8 #[.val (.ref a1), .val (.ref a2), .unset, .unset] [(.int (0 : Int32)), (.int (2 : Int32))])) rfl (by rw [hml]; rfl) (argsL := [(.int (2 : Int32)), (.int (0 : Int32))]) (rest := []) (lenOf own_pd_17 rfl) rfl (by show 2 * 0 + _ ≤ _; exact Nat.le_of_eq rfl) (hb hby d10_8) (fun _ _ => ⟨rfl, eh56, (by decide : 0 + 0 ≤ _), (by decide : 0 + 0 ≤ _)⟩)
      dsimp only [Pt.U, Pt.locs, Pt.cells, Pt.slots] at X57 l57 y57 z57 st57 hQ57
      subst l57
      subst y57 z57
      obtain ⟨Nq57, eh57, hv57⟩ := hQ57
      have N57 := Fr.app N56 Nq57
      rcases hv57 with ⟨hv57, hd57_0⟩ | ⟨hv57, hd57_0⟩
      · subst hv57
        obtain ⟨cq58, kq58, q58a, q58b, q58c⟩ := isOf hZ eh57 hE1
        obtain ⟨_, _, ⟨T58, L58, k58, n58⟩, -, X58, ⟨Lc58, hQ58, l58, y58, z58⟩, st58⟩ := X57.virtualBack hx (y := (⟨"java/lang/String", "length", "()I"⟩ : MethodName)) (z := (⟨"java/lang/String", "length", "()I"⟩ : MethodName)) hown (mvT hZ (own_k hw 49 rfl)) (mvT hZ (own_k hw 50 rfl)) (notFace_of_selects (args := #[]) (mvT hZ (own_k hw 52 rfl))) (mvT hZ (own_k hw 52 rfl)) (mvT hZ (own_k hw 51 rfl)) (by decide) (backOf (W := 0) (rmLen l Z a0 hw [] a1 cc1 tt1 k01 ll1 vv1 (2 : Int32) x1 y1 G1 h0 n0 Z0 hS (hG) hO hE1 hFc1 hFv1 hVv1 (hR1)) hZ (own_k hw 53 rfl) (own_k hw 7 rfl) (by decide) (by decide)) q58a q58c (g := (mkF m 59 #[.val (.ref a1), .val (.ref a2), .val (.int (0 : Int32)), .val (.int (0 : Int32))] [(.ref a1)])) rfl (by rw [hml]; rfl) (Steps.refl _) (argsL := []) (rest := []) (lenOf own_pd_16 rfl) rfl (by show 2 * 0 + _ ≤ _; exact Nat.le_of_eq rfl) (hb hby d10_59) (fun _ _ => ⟨rfl, eh57, (by decide : 0 + 0 ≤ _), (by decide : 0 + 0 ≤ _)⟩)
        dsimp only [Pt.U, Pt.locs, Pt.cells, Pt.slots] at X58 l58 y58 z58 st58 hQ58
        subst l58
        subst y58 z58
        obtain ⟨Nq58, eh58, hv58⟩ := hQ58
        have N58 := Fr.app N57 Nq58
        subst hv58
        obtain ⟨cq59, kq59, q59a, q59b, q59c⟩ := isOf hZ eh58 hE2
        obtain ⟨_, _, ⟨T59, L59, k59, n59⟩, -, X59, ⟨Lc59, hQ59, l59, y59, z59⟩, st59⟩ := X58.virtualBack hx (y := (⟨"java/lang/String", "length", "()I"⟩ : MethodName)) (z := (⟨"java/lang/String", "length", "()I"⟩ : MethodName)) hown (mvT hZ (own_k hw 49 rfl)) (mvT hZ (own_k hw 50 rfl)) (notFace_of_selects (args := #[]) (mvT hZ (own_k hw 52 rfl))) (mvT hZ (own_k hw 52 rfl)) (mvT hZ (own_k hw 51 rfl)) (by decide) (backOf (W := 1) (rmLen l Z a0 hw [] a2 cc2 tt2 k02 ll2 vv2 (0 : Int32) x2 y2 G1 h0 n0 Z0 hS (hG) hO hE2 hFc2 hFv2 hVv2 (hR2)) hZ (own_k hw 53 rfl) (own_k hw 7 rfl) (by decide) (by decide)) q59a q59c (g := (mkF m 63 #[.val (.ref a1), .val (.ref a2), .val (.int (0 : Int32)), .val (.int (0 : Int32))] [(.ref a2), (.int (2 : Int32))])) rfl (by rw [hml]; rfl) (Steps.refl _) (argsL := []) (rest := [(.int (2 : Int32))]) (lenOf own_pd_16 rfl) rfl (by show 2 * 0 + _ ≤ _; exact Nat.le_of_eq rfl) (hb hby d10_63) (fun _ _ => ⟨rfl, eh58, (by decide : 0 + 0 ≤ _), (by decide : 0 + 0 ≤ _)⟩)
        dsimp only [Pt.U, Pt.locs, Pt.cells, Pt.slots] at X59 l59 y59 z59 st59 hQ59
        subst l59
        subst y59 z59
        obtain ⟨Nq59, eh59, hv59⟩ := hQ59
        have N59 := Fr.app N58 Nq59
        subst hv59
        obtain ⟨_, _, ⟨T60, L60, k60, n60⟩, -, X60, ⟨Lc60, hQ60, l60, y60, z60⟩, st60⟩ := Jvm.LawKit.callS X59 hx (y := (⟨"java/lang/Integer", "compare", "(II)I"⟩ : MethodName)) hown (mvT hZ (own_k hw 60 rfl)) (mvT hZ (own_k hw 61 rfl)) (mvT hZ (own_k hw 62 rfl)) (mvT hZ (own_k hw 63 rfl)) (by decide) (backOf (W := 0) (rmIc l Z a0 hw [] (2 : Int32) (0 : Int32) h0 n0 Z0 ) hZ (own_k hw 63 rfl) (own_k hw 62 rfl) (by decide) (by decide)) (g := (mkF m 66 #[.val (.ref a1), .val (.ref a2), .val (.int (0 : Int32)), .val (.int (0 : Int32))] [(.int (0 : Int32)), (.int (2 : Int32))])) rfl (by rw [hml]; rfl) (argsL := [(.int (2 : Int32)), (.int (0 : Int32))]) (rest := []) (lenOf own_pd_17 rfl) rfl (by show 2 * 0 + _ ≤ _; exact Nat.le_of_eq rfl) (hb hby d10_66) (fun _ _ => ⟨rfl, eh59, (by decide : 0 + 0 ≤ _), (by decide : 0 + 0 ≤ _)⟩)
        dsimp only [Pt.U, Pt.locs, Pt.cells, Pt.slots] at X60 l60 y60 z60 st60 hQ60
        subst l60
        subst y60 z60
        obtain ⟨Nq60, eh60, hv60⟩ := hQ60
        have N60 := Fr.app N59 Nq60
        subst hv60
        obtain ⟨fs, hr, hrun, hended, hW, hsame⟩ := X60.leave (v := (some (.int (own_ic (2 : Int32) (0 : Int32))))) (fun h => by rw [Bd.returns] at h; cases h)
        refine ⟨_, _, pre0 _ ?_, hrun, hended, _, _, rfl, ?_, ⟨_, rfl⟩, hW, hsame.mono (by decide) (by decide)⟩
        · show Steps p.tables e below (s₁.setTop (mkF m 0 #[.val (.ref a1), .val (.ref a2), .unset, .unset] [])) _
          refine XS.aloadN X0.here hx rfl (hb hby d10_0) rfl rfl ?_
          show Steps p.tables e below (s₁.setTop (mkF m 1 #[.val (.ref a1), .val (.ref a2), .unset, .unset] [(.ref a1)])) _
          refine st55.trans ?_
          show Steps p.tables e below (T55.setTop (mkF m 4 #[.val (.ref a1), .val (.ref a2), .unset, .unset] [(.int (2 : Int32))])) _
          refine XS.aloadN X55.here hx rfl (hb hby d10_4) rfl rfl ?_
          show Steps p.tables e below (T55.setTop (mkF m 5 #[.val (.ref a1), .val (.ref a2), .unset, .unset] [(.ref a2), (.int (2 : Int32))])) _
          refine st56.trans ?_
          show Steps p.tables e below (T56.setTop (mkF m 8 #[.val (.ref a1), .val (.ref a2), .unset, .unset] [(.int (0 : Int32)), (.int (2 : Int32))])) _
          refine st57 _ ?_
          show Steps p.tables e below (T57.setTop (mkF m 11 #[.val (.ref a1), .val (.ref a2), .unset, .unset] [(.int (0 : Int32))])) _
          refine XS.istoreN X57.here hx rfl (hb hby d10_11) rfl (l' := #[.val (.ref a1), .val (.ref a2), .val (.int (0 : Int32)), .unset]) rfl ?_
          show Steps p.tables e below (T57.setTop (mkF m 12 #[.val (.ref a1), .val (.ref a2), .val (.int (0 : Int32)), .unset] [])) _
          refine XS.iconst X57.here hx rfl (hb hby d10_12) ?_
          show Steps p.tables e below (T57.setTop (mkF m 13 #[.val (.ref a1), .val (.ref a2), .val (.int (0 : Int32)), .unset] [(.int (0 : Int32))])) _
          refine XS.istoreN X57.here hx rfl (hb hby d10_13) rfl (l' := #[.val (.ref a1), .val (.ref a2), .val (.int (0 : Int32)), .val (.int (0 : Int32))]) rfl ?_
          show Steps p.tables e below (T57.setTop (mkF m 14 #[.val (.ref a1), .val (.ref a2), .val (.int (0 : Int32)), .val (.int (0 : Int32))] [])) _
          refine XS.iloadN X57.here hx rfl (hb hby d10_14) rfl ?_
          show Steps p.tables e below (T57.setTop (mkF m 15 #[.val (.ref a1), .val (.ref a2), .val (.int (0 : Int32)), .val (.int (0 : Int32))] [(.int (0 : Int32))])) _
          refine XS.iloadN X57.here hx rfl (hb hby d10_15) rfl ?_
          show Steps p.tables e below (T57.setTop (mkF m 16 #[.val (.ref a1), .val (.ref a2), .val (.int (0 : Int32)), .val (.int (0 : Int32))] [(.int (0 : Int32)), (.int (0 : Int32))])) _
          refine XS.icmpYes X57.here hx rfl (pc0 := 16) (pc' := 58) rfl (hb hby d10_16) rfl (by decide) (by decide) (by decide) ?_
          show Steps p.tables e below (T57.setTop (mkF m 58 #[.val (.ref a1), .val (.ref a2), .val (.int (0 : Int32)), .val (.int (0 : Int32))] [])) _
          refine XS.aloadN X57.here hx rfl (hb hby d10_58) rfl rfl ?_
          show Steps p.tables e below (T57.setTop (mkF m 59 #[.val (.ref a1), .val (.ref a2), .val (.int (0 : Int32)), .val (.int (0 : Int32))] [(.ref a1)])) _
          refine st58.trans ?_
          show Steps p.tables e below (T58.setTop (mkF m 62 #[.val (.ref a1), .val (.ref a2), .val (.int (0 : Int32)), .val (.int (0 : Int32))] [(.int (2 : Int32))])) _
          refine XS.aloadN X58.here hx rfl (hb hby d10_62) rfl rfl ?_
          show Steps p.tables e below (T58.setTop (mkF m 63 #[.val (.ref a1), .val (.ref a2), .val (.int (0 : Int32)), .val (.int (0 : Int32))] [(.ref a2), (.int (2 : Int32))])) _
          refine st59.trans ?_
          show Steps p.tables e below (T59.setTop (mkF m 66 #[.val (.ref a1), .val (.ref a2), .val (.int (0 : Int32)), .val (.int (0 : Int32))] [(.int (0 : Int32)), (.int (2 : Int32))])) _
          refine st60 _ ?_
          show Steps p.tables e below (T60.setTop (mkF m 69 #[.val (.ref a1), .val (.ref a2), .val (.int (0 : Int32)), .val (.int (0 : Int32))] [(.int (own_ic (2 : Int32) (0 : Int32)))])) _
          exact retOut X60 hx Bd.returns rfl (Or.inl ⟨rfl, Or.inl rfl, _, rfl⟩) (hb hby d10_69) hr
        · show Qcmp Z a1 a2 cc1 tt1 k01 ll1 vv1 (2 : Int32) x1 y1 cc2 tt2 k02 ll2 vv2 (0 : Int32) x2 y2 G1 fv h0 n0 _ T60.heap _
          rw [eh60]
          exact ⟨N60, rfl, (by unfold own_cmp; rw [if_neg (fun q => (by decide : ¬ (0 : Int32) < own_mn (2 : Int32) (0 : Int32)) q.1), if_neg (fun q => (by decide : ¬ (1 : Int32) < own_mn (2 : Int32) (0 : Int32)) q.1)])⟩
      · subst hv57
        exact absurd hd57_0 (by decide)
    · skip
      obtain ⟨cq61, kq61, q61a, q61b, q61c⟩ := isOf hZ e0 hE1
      obtain ⟨_, _, ⟨T61, L61, k61, n61⟩, -, X61, ⟨Lc61, hQ61, l61, y61, z61⟩, st61⟩ := X0.virtualBack hx (y := (⟨"java/lang/String", "length", "()I"⟩ : MethodName)) (z := (⟨"java/lang/String", "length", "()I"⟩ : MethodName)) hown (mvT hZ (own_k hw 49 rfl)) (mvT hZ (own_k hw 50 rfl)) (notFace_of_selects (args := #[]) (mvT hZ (own_k hw 52 rfl))) (mvT hZ (own_k hw 52 rfl)) (mvT hZ (own_k hw 51 rfl)) (by decide) (backOf (W := 0) (rmLen l Z a0 hw [] a1 cc1 tt1 k01 ll1 vv1 (2 : Int32) x1 y1 G1 h0 n0 Z0 hS (hG) hO hE1 hFc1 hFv1 hVv1 (hR1)) hZ (own_k hw 53 rfl) (own_k hw 7 rfl) (by decide) (by decide)) q61a q61c (g := (mkF m 1 #[.val (.ref a1), .val (.ref a2), .unset, .unset] [(.ref a1)])) rfl (by rw [hml]; rfl) (Steps.refl _) (argsL := []) (rest := []) (lenOf own_pd_16 rfl) rfl (by show 2 * 0 + _ ≤ _; exact Nat.le_of_eq rfl) (hb hby d10_1) (fun _ _ => ⟨rfl, e0, (by decide : 0 + 0 ≤ _), (by decide : 0 + 0 ≤ _)⟩)
      dsimp only [Pt.U, Pt.locs, Pt.cells, Pt.slots] at X61 l61 y61 z61 st61 hQ61
      subst l61
      subst y61 z61
      obtain ⟨Nq61, eh61, hv61⟩ := hQ61
      have N61 := Fr.app N0 Nq61
      subst hv61
      obtain ⟨cq62, kq62, q62a, q62b, q62c⟩ := isOf hZ eh61 hE2
      obtain ⟨_, _, ⟨T62, L62, k62, n62⟩, -, X62, ⟨Lc62, hQ62, l62, y62, z62⟩, st62⟩ := X61.virtualBack hx (y := (⟨"java/lang/String", "length", "()I"⟩ : MethodName)) (z := (⟨"java/lang/String", "length", "()I"⟩ : MethodName)) hown (mvT hZ (own_k hw 49 rfl)) (mvT hZ (own_k hw 50 rfl)) (notFace_of_selects (args := #[]) (mvT hZ (own_k hw 52 rfl))) (mvT hZ (own_k hw 52 rfl)) (mvT hZ (own_k hw 51 rfl)) (by decide) (backOf (W := 1) (rmLen l Z a0 hw [] a2 cc2 tt2 k02 ll2 vv2 (1 : Int32) x2 y2 G1 h0 n0 Z0 hS (hG) hO hE2 hFc2 hFv2 hVv2 (hR2)) hZ (own_k hw 53 rfl) (own_k hw 7 rfl) (by decide) (by decide)) q62a q62c (g := (mkF m 5 #[.val (.ref a1), .val (.ref a2), .unset, .unset] [(.ref a2), (.int (2 : Int32))])) rfl (by rw [hml]; rfl) (Steps.refl _) (argsL := []) (rest := [(.int (2 : Int32))]) (lenOf own_pd_16 rfl) rfl (by show 2 * 0 + _ ≤ _; exact Nat.le_of_eq rfl) (hb hby d10_5) (fun _ _ => ⟨rfl, eh61, (by decide : 0 + 0 ≤ _), (by decide : 0 + 0 ≤ _)⟩)
      dsimp only [Pt.U, Pt.locs, Pt.cells, Pt.slots] at X62 l62 y62 z62 st62 hQ62
      subst l62
      subst y62 z62
      obtain ⟨Nq62, eh62, hv62⟩ := hQ62
      have N62 := Fr.app N61 Nq62
      subst hv62
      obtain ⟨_, _, ⟨T63, L63, k63, n63⟩, -, X63, ⟨Lc63, hQ63, l63, y63, z63⟩, st63⟩ := Jvm.LawKit.callS X62 hx (y := (⟨"java/lang/Math", "min", "(II)I"⟩ : MethodName)) hown (mvT hZ (own_k hw 59 rfl)) (mvT hZ (own_k hw 39 rfl)) (mvT hZ (own_k hw 40 rfl)) (mvT hZ (own_k hw 41 rfl)) (by decide) (backOf (W := 0) (rmMo l Z a0 hw [] (2 : Int32) (1 : Int32) h0 n0 Z0 ) hZ (own_k hw 41 rfl) (own_k hw 40 rfl) (by decide) (by decide)) (g := (mkF m 8 #[.val (.ref a1), .val (.ref a2), .unset, .unset] [(.int (1 : Int32)), (.int (2 : Int32))])) rfl (by rw [hml]; rfl) (argsL := [(.int (2 : Int32)), (.int (1 : Int32))]) (rest := []) (lenOf own_pd_17 rfl) rfl (by show 2 * 0 + _ ≤ _; exact Nat.le_of_eq rfl) (hb hby d10_8) (fun _ _ => ⟨rfl, eh62, (by decide : 0 + 0 ≤ _), (by decide : 0 + 0 ≤ _)⟩)
      dsimp only [Pt.U, Pt.locs, Pt.cells, Pt.slots] at X63 l63 y63 z63 st63 hQ63
      subst l63
      subst y63 z63
      obtain ⟨Nq63, eh63, hv63⟩ := hQ63
      have N63 := Fr.app N62 Nq63
      rcases hv63 with ⟨hv63, hd63_0⟩ | ⟨hv63, hd63_0⟩
      · subst hv63
        obtain ⟨cq64, kq64, q64a, q64b, q64c⟩ := isOf hZ eh63 hE1
        obtain ⟨_, _, ⟨T64, L64, k64, n64⟩, -, X64, ⟨Lc64, hQ64, l64, y64, z64⟩, st64⟩ := X63.virtualBack hx (y := (⟨"java/lang/String", "charAt", "(I)C"⟩ : MethodName)) (z := (⟨"java/lang/String", "charAt", "(I)C"⟩ : MethodName)) hown (mvT hZ (own_k hw 87 rfl)) (mvT hZ (own_k hw 88 rfl)) (notFace_of_selects (args := #[]) (mvT hZ (own_k hw 90 rfl))) (mvT hZ (own_k hw 90 rfl)) (mvT hZ (own_k hw 89 rfl)) (by decide) (backOf (W := 0) (rmCa0 l Z a0 hw [] a1 cc1 tt1 k01 ll1 vv1 (2 : Int32) x1 y1 G1 fv h0 n0 Z0 hS (hG) hSa hSh hSl hSf (hfr) hO hE1 hFc1 hFv1 hVv1 (hR1) (by decide) (hHx1)) hZ (own_k hw 91 rfl) (own_k hw 7 rfl) (by decide) (by decide)) q64a q64c (g := (mkF m 21 #[.val (.ref a1), .val (.ref a2), .val (.int (1 : Int32)), .val (.int (0 : Int32))] [(.int (0 : Int32)), (.ref a1)])) rfl (by rw [hml]; rfl) (Steps.refl _) (argsL := [(.int (0 : Int32))]) (rest := []) (lenOf own_pd_18 rfl) rfl (by show 2 * 0 + _ ≤ _; exact Nat.le_of_eq rfl) (hb hby d10_21) (fun _ _ => ⟨rfl, eh63, (by decide : 0 + 0 ≤ _), (by decide : 0 + 0 ≤ _)⟩)
        dsimp only [Pt.U, Pt.locs, Pt.cells, Pt.slots] at X64 l64 y64 z64 st64 hQ64
        subst l64
        subst y64 z64
        obtain ⟨Nq64, eh64, hv64⟩ := hQ64
        have N64 := Fr.app N63 Nq64
        subst hv64
        obtain ⟨cq65, kq65, q65a, q65b, q65c⟩ := isOf hZ eh64 hE2
        obtain ⟨_, _, ⟨T65, L65, k65, n65⟩, -, X65, ⟨Lc65, hQ65, l65, y65, z65⟩, st65⟩ := X64.virtualBack hx (y := (⟨"java/lang/String", "charAt", "(I)C"⟩ : MethodName)) (z := (⟨"java/lang/String", "charAt", "(I)C"⟩ : MethodName)) hown (mvT hZ (own_k hw 87 rfl)) (mvT hZ (own_k hw 88 rfl)) (notFace_of_selects (args := #[]) (mvT hZ (own_k hw 90 rfl))) (mvT hZ (own_k hw 90 rfl)) (mvT hZ (own_k hw 89 rfl)) (by decide) (backOf (W := 1) (rmCa0 l Z a0 hw [] a2 cc2 tt2 k02 ll2 vv2 (1 : Int32) x2 y2 G1 fv h0 n0 Z0 hS (hG) hSa hSh hSl hSf (hfr) hO hE2 hFc2 hFv2 hVv2 (hR2) (by decide) (hHx2)) hZ (own_k hw 91 rfl) (own_k hw 7 rfl) (by decide) (by decide)) q65a q65c (g := (mkF m 26 #[.val (.ref a1), .val (.ref a2), .val (.int (1 : Int32)), .val (.int (0 : Int32))] [(.int (0 : Int32)), (.ref a2), (.int x1)])) rfl (by rw [hml]; rfl) (Steps.refl _) (argsL := [(.int (0 : Int32))]) (rest := [(.int x1)]) (lenOf own_pd_18 rfl) rfl (by show 2 * 0 + _ ≤ _; exact Nat.le_of_eq rfl) (hb hby d10_26) (fun _ _ => ⟨rfl, eh64, (by decide : 0 + 0 ≤ _), (by decide : 0 + 0 ≤ _)⟩)
        dsimp only [Pt.U, Pt.locs, Pt.cells, Pt.slots] at X65 l65 y65 z65 st65 hQ65
        subst l65
        subst y65 z65
        obtain ⟨Nq65, eh65, hv65⟩ := hQ65
        have N65 := Fr.app N64 Nq65
        subst hv65
        have pre66 : ∀ t, Steps p.tables e below (T65.setTop (mkF m 29 #[.val (.ref a1), .val (.ref a2), .val (.int (1 : Int32)), .val (.int (0 : Int32))] [(.int x2), (.int x1)])) t → Steps p.tables e below (s₁.setTop (entryFrame m #[(.ref a1), (.ref a2)] 4)) t := fun t kt => pre0 t (by
          show Steps p.tables e below (s₁.setTop (mkF m 0 #[.val (.ref a1), .val (.ref a2), .unset, .unset] [])) _
          refine XS.aloadN X0.here hx rfl (hb hby d10_0) rfl rfl ?_
          show Steps p.tables e below (s₁.setTop (mkF m 1 #[.val (.ref a1), .val (.ref a2), .unset, .unset] [(.ref a1)])) _
          refine st61.trans ?_
          show Steps p.tables e below (T61.setTop (mkF m 4 #[.val (.ref a1), .val (.ref a2), .unset, .unset] [(.int (2 : Int32))])) _
          refine XS.aloadN X61.here hx rfl (hb hby d10_4) rfl rfl ?_
          show Steps p.tables e below (T61.setTop (mkF m 5 #[.val (.ref a1), .val (.ref a2), .unset, .unset] [(.ref a2), (.int (2 : Int32))])) _
          refine st62.trans ?_
          show Steps p.tables e below (T62.setTop (mkF m 8 #[.val (.ref a1), .val (.ref a2), .unset, .unset] [(.int (1 : Int32)), (.int (2 : Int32))])) _
          refine st63 _ ?_
          show Steps p.tables e below (T63.setTop (mkF m 11 #[.val (.ref a1), .val (.ref a2), .unset, .unset] [(.int (1 : Int32))])) _
          refine XS.istoreN X63.here hx rfl (hb hby d10_11) rfl (l' := #[.val (.ref a1), .val (.ref a2), .val (.int (1 : Int32)), .unset]) rfl ?_
          show Steps p.tables e below (T63.setTop (mkF m 12 #[.val (.ref a1), .val (.ref a2), .val (.int (1 : Int32)), .unset] [])) _
          refine XS.iconst X63.here hx rfl (hb hby d10_12) ?_
          show Steps p.tables e below (T63.setTop (mkF m 13 #[.val (.ref a1), .val (.ref a2), .val (.int (1 : Int32)), .unset] [(.int (0 : Int32))])) _
          refine XS.istoreN X63.here hx rfl (hb hby d10_13) rfl (l' := #[.val (.ref a1), .val (.ref a2), .val (.int (1 : Int32)), .val (.int (0 : Int32))]) rfl ?_
          show Steps p.tables e below (T63.setTop (mkF m 14 #[.val (.ref a1), .val (.ref a2), .val (.int (1 : Int32)), .val (.int (0 : Int32))] [])) _
          refine XS.iloadN X63.here hx rfl (hb hby d10_14) rfl ?_
          show Steps p.tables e below (T63.setTop (mkF m 15 #[.val (.ref a1), .val (.ref a2), .val (.int (1 : Int32)), .val (.int (0 : Int32))] [(.int (0 : Int32))])) _
          refine XS.iloadN X63.here hx rfl (hb hby d10_15) rfl ?_
          show Steps p.tables e below (T63.setTop (mkF m 16 #[.val (.ref a1), .val (.ref a2), .val (.int (1 : Int32)), .val (.int (0 : Int32))] [(.int (1 : Int32)), (.int (0 : Int32))])) _
          refine XS.icmpNo X63.here hx rfl (hb hby d10_16) rfl (by decide) ?_
          show Steps p.tables e below (T63.setTop (mkF m 19 #[.val (.ref a1), .val (.ref a2), .val (.int (1 : Int32)), .val (.int (0 : Int32))] [])) _
          refine XS.aloadN X63.here hx rfl (hb hby d10_19) rfl rfl ?_
          show Steps p.tables e below (T63.setTop (mkF m 20 #[.val (.ref a1), .val (.ref a2), .val (.int (1 : Int32)), .val (.int (0 : Int32))] [(.ref a1)])) _
          refine XS.iloadN X63.here hx rfl (hb hby d10_20) rfl ?_
          show Steps p.tables e below (T63.setTop (mkF m 21 #[.val (.ref a1), .val (.ref a2), .val (.int (1 : Int32)), .val (.int (0 : Int32))] [(.int (0 : Int32)), (.ref a1)])) _
          refine st64.trans ?_
          show Steps p.tables e below (T64.setTop (mkF m 24 #[.val (.ref a1), .val (.ref a2), .val (.int (1 : Int32)), .val (.int (0 : Int32))] [(.int x1)])) _
          refine XS.aloadN X64.here hx rfl (hb hby d10_24) rfl rfl ?_
          show Steps p.tables e below (T64.setTop (mkF m 25 #[.val (.ref a1), .val (.ref a2), .val (.int (1 : Int32)), .val (.int (0 : Int32))] [(.ref a2), (.int x1)])) _
          refine XS.iloadN X64.here hx rfl (hb hby d10_25) rfl ?_
          show Steps p.tables e below (T64.setTop (mkF m 26 #[.val (.ref a1), .val (.ref a2), .val (.int (1 : Int32)), .val (.int (0 : Int32))] [(.int (0 : Int32)), (.ref a2), (.int x1)])) _
          refine st65.trans ?_
          exact kt)
        by_cases hcx67 : x1 = x2
        · skip
          obtain ⟨cq68, kq68, q68a, q68b, q68c⟩ := isOf hZ eh65 hE1
          obtain ⟨_, _, ⟨T68, L68, k68, n68⟩, -, X68, ⟨Lc68, hQ68, l68, y68, z68⟩, st68⟩ := X65.virtualBack hx (y := (⟨"java/lang/String", "length", "()I"⟩ : MethodName)) (z := (⟨"java/lang/String", "length", "()I"⟩ : MethodName)) hown (mvT hZ (own_k hw 49 rfl)) (mvT hZ (own_k hw 50 rfl)) (notFace_of_selects (args := #[]) (mvT hZ (own_k hw 52 rfl))) (mvT hZ (own_k hw 52 rfl)) (mvT hZ (own_k hw 51 rfl)) (by decide) (backOf (W := 0) (rmLen l Z a0 hw [] a1 cc1 tt1 k01 ll1 vv1 (2 : Int32) x1 y1 G1 h0 n0 Z0 hS (hG) hO hE1 hFc1 hFv1 hVv1 (hR1)) hZ (own_k hw 53 rfl) (own_k hw 7 rfl) (by decide) (by decide)) q68a q68c (g := (mkF m 59 #[.val (.ref a1), .val (.ref a2), .val (.int (1 : Int32)), .val (.int (1 : Int32))] [(.ref a1)])) rfl (by rw [hml]; rfl) (Steps.refl _) (argsL := []) (rest := []) (lenOf own_pd_16 rfl) rfl (by show 2 * 0 + _ ≤ _; exact Nat.le_of_eq rfl) (hb hby d10_59) (fun _ _ => ⟨rfl, eh65, (by decide : 0 + 0 ≤ _), (by decide : 0 + 0 ≤ _)⟩)
          dsimp only [Pt.U, Pt.locs, Pt.cells, Pt.slots] at X68 l68 y68 z68 st68 hQ68
          subst l68
          subst y68 z68
          obtain ⟨Nq68, eh68, hv68⟩ := hQ68
          have N68 := Fr.app N65 Nq68
          subst hv68
          obtain ⟨cq69, kq69, q69a, q69b, q69c⟩ := isOf hZ eh68 hE2
          obtain ⟨_, _, ⟨T69, L69, k69, n69⟩, -, X69, ⟨Lc69, hQ69, l69, y69, z69⟩, st69⟩ := X68.virtualBack hx (y := (⟨"java/lang/String", "length", "()I"⟩ : MethodName)) (z := (⟨"java/lang/String", "length", "()I"⟩ : MethodName)) hown (mvT hZ (own_k hw 49 rfl)) (mvT hZ (own_k hw 50 rfl)) (notFace_of_selects (args := #[]) (mvT hZ (own_k hw 52 rfl))) (mvT hZ (own_k hw 52 rfl)) (mvT hZ (own_k hw 51 rfl)) (by decide) (backOf (W := 1) (rmLen l Z a0 hw [] a2 cc2 tt2 k02 ll2 vv2 (1 : Int32) x2 y2 G1 h0 n0 Z0 hS (hG) hO hE2 hFc2 hFv2 hVv2 (hR2)) hZ (own_k hw 53 rfl) (own_k hw 7 rfl) (by decide) (by decide)) q69a q69c (g := (mkF m 63 #[.val (.ref a1), .val (.ref a2), .val (.int (1 : Int32)), .val (.int (1 : Int32))] [(.ref a2), (.int (2 : Int32))])) rfl (by rw [hml]; rfl) (Steps.refl _) (argsL := []) (rest := [(.int (2 : Int32))]) (lenOf own_pd_16 rfl) rfl (by show 2 * 0 + _ ≤ _; exact Nat.le_of_eq rfl) (hb hby d10_63) (fun _ _ => ⟨rfl, eh68, (by decide : 0 + 0 ≤ _), (by decide : 0 + 0 ≤ _)⟩)
          dsimp only [Pt.U, Pt.locs, Pt.cells, Pt.slots] at X69 l69 y69 z69 st69 hQ69
          subst l69
          subst y69 z69
          obtain ⟨Nq69, eh69, hv69⟩ := hQ69
          have N69 := Fr.app N68 Nq69
          subst hv69
          obtain ⟨_, _, ⟨T70, L70, k70, n70⟩, -, X70, ⟨Lc70, hQ70, l70, y70, z70⟩, st70⟩ := Jvm.LawKit.callS X69 hx (y := (⟨"java/lang/Integer", "compare", "(II)I"⟩ : MethodName)) hown (mvT hZ (own_k hw 60 rfl)) (mvT hZ (own_k hw 61 rfl)) (mvT hZ (own_k hw 62 rfl)) (mvT hZ (own_k hw 63 rfl)) (by decide) (backOf (W := 0) (rmIc l Z a0 hw [] (2 : Int32) (1 : Int32) h0 n0 Z0 ) hZ (own_k hw 63 rfl) (own_k hw 62 rfl) (by decide) (by decide)) (g := (mkF m 66 #[.val (.ref a1), .val (.ref a2), .val (.int (1 : Int32)), .val (.int (1 : Int32))] [(.int (1 : Int32)), (.int (2 : Int32))])) rfl (by rw [hml]; rfl) (argsL := [(.int (2 : Int32)), (.int (1 : Int32))]) (rest := []) (lenOf own_pd_17 rfl) rfl (by show 2 * 0 + _ ≤ _; exact Nat.le_of_eq rfl) (hb hby d10_66) (fun _ _ => ⟨rfl, eh69, (by decide : 0 + 0 ≤ _), (by decide : 0 + 0 ≤ _)⟩)
          dsimp only [Pt.U, Pt.locs, Pt.cells, Pt.slots] at X70 l70 y70 z70 st70 hQ70
          subst l70
          subst y70 z70
          obtain ⟨Nq70, eh70, hv70⟩ := hQ70
          have N70 := Fr.app N69 Nq70
          subst hv70
          obtain ⟨fs, hr, hrun, hended, hW, hsame⟩ := X70.leave (v := (some (.int (own_ic (2 : Int32) (1 : Int32))))) (fun h => by rw [Bd.returns] at h; cases h)
          refine ⟨_, _, pre66 _ ?_, hrun, hended, _, _, rfl, ?_, ⟨_, rfl⟩, hW, hsame.mono (by decide) (by decide)⟩
          · show Steps p.tables e below (T65.setTop (mkF m 29 #[.val (.ref a1), .val (.ref a2), .val (.int (1 : Int32)), .val (.int (0 : Int32))] [(.int x2), (.int x1)])) _
            refine XS.icmpYes X65.here hx rfl (pc0 := 29) (pc' := 52) rfl (hb hby d10_29) rfl (teq hcx67).1 (by decide) (by decide) ?_
            show Steps p.tables e below (T65.setTop (mkF m 52 #[.val (.ref a1), .val (.ref a2), .val (.int (1 : Int32)), .val (.int (0 : Int32))] [])) _
            refine XS.iinc X65.here hx rfl (hb hby d10_52) rfl (l' := #[.val (.ref a1), .val (.ref a2), .val (.int (1 : Int32)), .val (.int (1 : Int32))]) rfl ?_
            show Steps p.tables e below (T65.setTop (mkF m 55 #[.val (.ref a1), .val (.ref a2), .val (.int (1 : Int32)), .val (.int (1 : Int32))] [])) _
            refine XS.goto X65.here hx rfl (pc0 := 55) (pc' := 14) rfl (hb hby d10_55) (by decide) (by decide) ?_
            show Steps p.tables e below (T65.setTop (mkF m 14 #[.val (.ref a1), .val (.ref a2), .val (.int (1 : Int32)), .val (.int (1 : Int32))] [])) _
            refine XS.iloadN X65.here hx rfl (hb hby d10_14) rfl ?_
            show Steps p.tables e below (T65.setTop (mkF m 15 #[.val (.ref a1), .val (.ref a2), .val (.int (1 : Int32)), .val (.int (1 : Int32))] [(.int (1 : Int32))])) _
            refine XS.iloadN X65.here hx rfl (hb hby d10_15) rfl ?_
            show Steps p.tables e below (T65.setTop (mkF m 16 #[.val (.ref a1), .val (.ref a2), .val (.int (1 : Int32)), .val (.int (1 : Int32))] [(.int (1 : Int32)), (.int (1 : Int32))])) _
            refine XS.icmpYes X65.here hx rfl (pc0 := 16) (pc' := 58) rfl (hb hby d10_16) rfl (by decide) (by decide) (by decide) ?_
            show Steps p.tables e below (T65.setTop (mkF m 58 #[.val (.ref a1), .val (.ref a2), .val (.int (1 : Int32)), .val (.int (1 : Int32))] [])) _
            refine XS.aloadN X65.here hx rfl (hb hby d10_58) rfl rfl ?_
            show Steps p.tables e below (T65.setTop (mkF m 59 #[.val (.ref a1), .val (.ref a2), .val (.int (1 : Int32)), .val (.int (1 : Int32))] [(.ref a1)])) _
            refine st68.trans ?_
            show Steps p.tables e below (T68.setTop (mkF m 62 #[.val (.ref a1), .val (.ref a2), .val (.int (1 : Int32)), .val (.int (1 : Int32))] [(.int (2 : Int32))])) _
            refine XS.aloadN X68.here hx rfl (hb hby d10_62) rfl rfl ?_
            show Steps p.tables e below (T68.setTop (mkF m 63 #[.val (.ref a1), .val (.ref a2), .val (.int (1 : Int32)), .val (.int (1 : Int32))] [(.ref a2), (.int (2 : Int32))])) _
            refine st69.trans ?_
            show Steps p.tables e below (T69.setTop (mkF m 66 #[.val (.ref a1), .val (.ref a2), .val (.int (1 : Int32)), .val (.int (1 : Int32))] [(.int (1 : Int32)), (.int (2 : Int32))])) _
            refine st70 _ ?_
            show Steps p.tables e below (T70.setTop (mkF m 69 #[.val (.ref a1), .val (.ref a2), .val (.int (1 : Int32)), .val (.int (1 : Int32))] [(.int (own_ic (2 : Int32) (1 : Int32)))])) _
            exact retOut X70 hx Bd.returns rfl (Or.inl ⟨rfl, Or.inl rfl, _, rfl⟩) (hb hby d10_69) hr
          · show Qcmp Z a1 a2 cc1 tt1 k01 ll1 vv1 (2 : Int32) x1 y1 cc2 tt2 k02 ll2 vv2 (1 : Int32) x2 y2 G1 fv h0 n0 _ T70.heap _
            rw [eh70]
            exact ⟨N70, rfl, (by unfold own_cmp; rw [if_neg (fun q => q.2 hcx67), if_neg (fun q => (by decide : ¬ (1 : Int32) < own_mn (2 : Int32) (1 : Int32)) q.1)])⟩
        · skip
          obtain ⟨cq71, kq71, q71a, q71b, q71c⟩ := isOf hZ eh65 hE1
          obtain ⟨_, _, ⟨T71, L71, k71, n71⟩, -, X71, ⟨Lc71, hQ71, l71, y71, z71⟩, st71⟩ := X65.virtualBack hx (y := (⟨"java/lang/String", "charAt", "(I)C"⟩ : MethodName)) (z := (⟨"java/lang/String", "charAt", "(I)C"⟩ : MethodName)) hown (mvT hZ (own_k hw 87 rfl)) (mvT hZ (own_k hw 88 rfl)) (notFace_of_selects (args := #[]) (mvT hZ (own_k hw 90 rfl))) (mvT hZ (own_k hw 90 rfl)) (mvT hZ (own_k hw 89 rfl)) (by decide) (backOf (W := 0) (rmCa0 l Z a0 hw [] a1 cc1 tt1 k01 ll1 vv1 (2 : Int32) x1 y1 G1 fv h0 n0 Z0 hS (hG) hSa hSh hSl hSf (hfr) hO hE1 hFc1 hFv1 hVv1 (hR1) (by decide) (hHx1)) hZ (own_k hw 91 rfl) (own_k hw 7 rfl) (by decide) (by decide)) q71a q71c (g := (mkF m 34 #[.val (.ref a1), .val (.ref a2), .val (.int (1 : Int32)), .val (.int (0 : Int32))] [(.int (0 : Int32)), (.ref a1)])) rfl (by rw [hml]; rfl) (Steps.refl _) (argsL := [(.int (0 : Int32))]) (rest := []) (lenOf own_pd_18 rfl) rfl (by show 2 * 0 + _ ≤ _; exact Nat.le_of_eq rfl) (hb hby d10_34) (fun _ _ => ⟨rfl, eh65, (by decide : 0 + 0 ≤ _), (by decide : 0 + 0 ≤ _)⟩)
          dsimp only [Pt.U, Pt.locs, Pt.cells, Pt.slots] at X71 l71 y71 z71 st71 hQ71
          subst l71
          subst y71 z71
          obtain ⟨Nq71, eh71, hv71⟩ := hQ71
          have N71 := Fr.app N65 Nq71
          subst hv71
          obtain ⟨_, _, ⟨T72, L72, k72, n72⟩, -, X72, ⟨Lc72, hQ72, l72, y72, z72⟩, st72⟩ := Jvm.LawKit.callS X71 hx (y := (⟨"com/example/topics_into_queries/topicsintoqueries/CodePoints", "rank", "(C)I"⟩ : MethodName)) hown (mvT hZ (own_k hw 114 rfl)) (mvT hZ (own_k hw 115 rfl)) (mvT hZ (own_k hw 47 rfl)) (mvT hZ (own_k hw 116 rfl)) (by decide) (backOf (W := 0) (rmRk l Z a0 hw [] x1 h0 n0 Z0 ) hZ (own_k hw 116 rfl) (own_k hw 47 rfl) (by decide) (by decide)) (g := (mkF m 37 #[.val (.ref a1), .val (.ref a2), .val (.int (1 : Int32)), .val (.int (0 : Int32))] [(.int x1)])) rfl (by rw [hml]; rfl) (argsL := [(.int x1)]) (rest := []) (lenOf own_pd_19 rfl) rfl (by show 2 * 0 + _ ≤ _; exact Nat.le_of_eq rfl) (hb hby d10_37) (fun _ _ => ⟨rfl, eh71, (by decide : 0 + 0 ≤ _), (by decide : 0 + 0 ≤ _)⟩)
          dsimp only [Pt.U, Pt.locs, Pt.cells, Pt.slots] at X72 l72 y72 z72 st72 hQ72
          subst l72
          subst y72 z72
          obtain ⟨Nq72, eh72, hv72⟩ := hQ72
          have N72 := Fr.app N71 Nq72
          subst hv72
          obtain ⟨cq73, kq73, q73a, q73b, q73c⟩ := isOf hZ eh72 hE2
          obtain ⟨_, _, ⟨T73, L73, k73, n73⟩, -, X73, ⟨Lc73, hQ73, l73, y73, z73⟩, st73⟩ := X72.virtualBack hx (y := (⟨"java/lang/String", "charAt", "(I)C"⟩ : MethodName)) (z := (⟨"java/lang/String", "charAt", "(I)C"⟩ : MethodName)) hown (mvT hZ (own_k hw 87 rfl)) (mvT hZ (own_k hw 88 rfl)) (notFace_of_selects (args := #[]) (mvT hZ (own_k hw 90 rfl))) (mvT hZ (own_k hw 90 rfl)) (mvT hZ (own_k hw 89 rfl)) (by decide) (backOf (W := 1) (rmCa0 l Z a0 hw [] a2 cc2 tt2 k02 ll2 vv2 (1 : Int32) x2 y2 G1 fv h0 n0 Z0 hS (hG) hSa hSh hSl hSf (hfr) hO hE2 hFc2 hFv2 hVv2 (hR2) (by decide) (hHx2)) hZ (own_k hw 91 rfl) (own_k hw 7 rfl) (by decide) (by decide)) q73a q73c (g := (mkF m 42 #[.val (.ref a1), .val (.ref a2), .val (.int (1 : Int32)), .val (.int (0 : Int32))] [(.int (0 : Int32)), (.ref a2), (.int (own_rk x1))])) rfl (by rw [hml]; rfl) (Steps.refl _) (argsL := [(.int (0 : Int32))]) (rest := [(.int (own_rk x1))]) (lenOf own_pd_18 rfl) rfl (by show 2 * 0 + _ ≤ _; exact Nat.le_of_eq rfl) (hb hby d10_42) (fun _ _ => ⟨rfl, eh72, (by decide : 0 + 0 ≤ _), (by decide : 0 + 0 ≤ _)⟩)
          dsimp only [Pt.U, Pt.locs, Pt.cells, Pt.slots] at X73 l73 y73 z73 st73 hQ73
          subst l73
          subst y73 z73
          obtain ⟨Nq73, eh73, hv73⟩ := hQ73
          have N73 := Fr.app N72 Nq73
          subst hv73
          obtain ⟨_, _, ⟨T74, L74, k74, n74⟩, -, X74, ⟨Lc74, hQ74, l74, y74, z74⟩, st74⟩ := Jvm.LawKit.callS X73 hx (y := (⟨"com/example/topics_into_queries/topicsintoqueries/CodePoints", "rank", "(C)I"⟩ : MethodName)) hown (mvT hZ (own_k hw 114 rfl)) (mvT hZ (own_k hw 115 rfl)) (mvT hZ (own_k hw 47 rfl)) (mvT hZ (own_k hw 116 rfl)) (by decide) (backOf (W := 1) (rmRk l Z a0 hw [] x2 h0 n0 Z0 ) hZ (own_k hw 116 rfl) (own_k hw 47 rfl) (by decide) (by decide)) (g := (mkF m 45 #[.val (.ref a1), .val (.ref a2), .val (.int (1 : Int32)), .val (.int (0 : Int32))] [(.int x2), (.int (own_rk x1))])) rfl (by rw [hml]; rfl) (argsL := [(.int x2)]) (rest := [(.int (own_rk x1))]) (lenOf own_pd_19 rfl) rfl (by show 2 * 0 + _ ≤ _; exact Nat.le_of_eq rfl) (hb hby d10_45) (fun _ _ => ⟨rfl, eh73, (by decide : 0 + 0 ≤ _), (by decide : 0 + 0 ≤ _)⟩)
          dsimp only [Pt.U, Pt.locs, Pt.cells, Pt.slots] at X74 l74 y74 z74 st74 hQ74
          subst l74
          subst y74 z74
          obtain ⟨Nq74, eh74, hv74⟩ := hQ74
          have N74 := Fr.app N73 Nq74
          subst hv74
          obtain ⟨_, _, ⟨T75, L75, k75, n75⟩, -, X75, ⟨Lc75, hQ75, l75, y75, z75⟩, st75⟩ := Jvm.LawKit.callS X74 hx (y := (⟨"java/lang/Integer", "compare", "(II)I"⟩ : MethodName)) hown (mvT hZ (own_k hw 60 rfl)) (mvT hZ (own_k hw 61 rfl)) (mvT hZ (own_k hw 62 rfl)) (mvT hZ (own_k hw 63 rfl)) (by decide) (backOf (W := 0) (rmIc l Z a0 hw [] (own_rk x1) (own_rk x2) h0 n0 Z0 ) hZ (own_k hw 63 rfl) (own_k hw 62 rfl) (by decide) (by decide)) (g := (mkF m 48 #[.val (.ref a1), .val (.ref a2), .val (.int (1 : Int32)), .val (.int (0 : Int32))] [(.int (own_rk x2)), (.int (own_rk x1))])) rfl (by rw [hml]; rfl) (argsL := [(.int (own_rk x1)), (.int (own_rk x2))]) (rest := []) (lenOf own_pd_17 rfl) rfl (by show 2 * 0 + _ ≤ _; exact Nat.le_of_eq rfl) (hb hby d10_48) (fun _ _ => ⟨rfl, eh74, (by decide : 0 + 0 ≤ _), (by decide : 0 + 0 ≤ _)⟩)
          dsimp only [Pt.U, Pt.locs, Pt.cells, Pt.slots] at X75 l75 y75 z75 st75 hQ75
          subst l75
          subst y75 z75
          obtain ⟨Nq75, eh75, hv75⟩ := hQ75
          have N75 := Fr.app N74 Nq75
          subst hv75
          obtain ⟨fs, hr, hrun, hended, hW, hsame⟩ := X75.leave (v := (some (.int (own_ic (own_rk x1) (own_rk x2))))) (fun h => by rw [Bd.returns] at h; cases h)
          refine ⟨_, _, pre66 _ ?_, hrun, hended, _, _, rfl, ?_, ⟨_, rfl⟩, hW, hsame.mono (by decide) (by decide)⟩
          · show Steps p.tables e below (T65.setTop (mkF m 29 #[.val (.ref a1), .val (.ref a2), .val (.int (1 : Int32)), .val (.int (0 : Int32))] [(.int x2), (.int x1)])) _
            refine XS.icmpNo X65.here hx rfl (hb hby d10_29) rfl (feq hcx67).1 ?_
            show Steps p.tables e below (T65.setTop (mkF m 32 #[.val (.ref a1), .val (.ref a2), .val (.int (1 : Int32)), .val (.int (0 : Int32))] [])) _
            refine XS.aloadN X65.here hx rfl (hb hby d10_32) rfl rfl ?_
            show Steps p.tables e below (T65.setTop (mkF m 33 #[.val (.ref a1), .val (.ref a2), .val (.int (1 : Int32)), .val (.int (0 : Int32))] [(.ref a1)])) _
            refine XS.iloadN X65.here hx rfl (hb hby d10_33) rfl ?_
            show Steps p.tables e below (T65.setTop (mkF m 34 #[.val (.ref a1), .val (.ref a2), .val (.int (1 : Int32)), .val (.int (0 : Int32))] [(.int (0 : Int32)), (.ref a1)])) _
            refine st71.trans ?_
            show Steps p.tables e below (T71.setTop (mkF m 37 #[.val (.ref a1), .val (.ref a2), .val (.int (1 : Int32)), .val (.int (0 : Int32))] [(.int x1)])) _
            refine st72 _ ?_
            show Steps p.tables e below (T72.setTop (mkF m 40 #[.val (.ref a1), .val (.ref a2), .val (.int (1 : Int32)), .val (.int (0 : Int32))] [(.int (own_rk x1))])) _
            refine XS.aloadN X72.here hx rfl (hb hby d10_40) rfl rfl ?_
            show Steps p.tables e below (T72.setTop (mkF m 41 #[.val (.ref a1), .val (.ref a2), .val (.int (1 : Int32)), .val (.int (0 : Int32))] [(.ref a2), (.int (own_rk x1))])) _
            refine XS.iloadN X72.here hx rfl (hb hby d10_41) rfl ?_
            show Steps p.tables e below (T72.setTop (mkF m 42 #[.val (.ref a1), .val (.ref a2), .val (.int (1 : Int32)), .val (.int (0 : Int32))] [(.int (0 : Int32)), (.ref a2), (.int (own_rk x1))])) _
            refine st73.trans ?_
            show Steps p.tables e below (T73.setTop (mkF m 45 #[.val (.ref a1), .val (.ref a2), .val (.int (1 : Int32)), .val (.int (0 : Int32))] [(.int x2), (.int (own_rk x1))])) _
            refine st74 _ ?_
            show Steps p.tables e below (T74.setTop (mkF m 48 #[.val (.ref a1), .val (.ref a2), .val (.int (1 : Int32)), .val (.int (0 : Int32))] [(.int (own_rk x2)), (.int (own_rk x1))])) _
            refine st75 _ ?_
            show Steps p.tables e below (T75.setTop (mkF m 51 #[.val (.ref a1), .val (.ref a2), .val (.int (1 : Int32)), .val (.int (0 : Int32))] [(.int (own_ic (own_rk x1) (own_rk x2)))])) _
            exact retOut X75 hx Bd.returns rfl (Or.inl ⟨rfl, Or.inl rfl, _, rfl⟩) (hb hby d10_51) hr
          · show Qcmp Z a1 a2 cc1 tt1 k01 ll1 vv1 (2 : Int32) x1 y1 cc2 tt2 k02 ll2 vv2 (1 : Int32) x2 y2 G1 fv h0 n0 _ T75.heap _
            rw [eh75]
            exact ⟨N75, rfl, (by unfold own_cmp; rw [if_pos ⟨(by decide : (0 : Int32) < own_mn (2 : Int32) (1 : Int32)), hcx67⟩])⟩
      · subst hv63
        exact absurd hd63_0 (by decide)
    · skip
      obtain ⟨cq76, kq76, q76a, q76b, q76c⟩ := isOf hZ e0 hE1
      obtain ⟨_, _, ⟨T76, L76, k76, n76⟩, -, X76, ⟨Lc76, hQ76, l76, y76, z76⟩, st76⟩ := X0.virtualBack hx (y := (⟨"java/lang/String", "length", "()I"⟩ : MethodName)) (z := (⟨"java/lang/String", "length", "()I"⟩ : MethodName)) hown (mvT hZ (own_k hw 49 rfl)) (mvT hZ (own_k hw 50 rfl)) (notFace_of_selects (args := #[]) (mvT hZ (own_k hw 52 rfl))) (mvT hZ (own_k hw 52 rfl)) (mvT hZ (own_k hw 51 rfl)) (by decide) (backOf (W := 0) (rmLen l Z a0 hw [] a1 cc1 tt1 k01 ll1 vv1 (2 : Int32) x1 y1 G1 h0 n0 Z0 hS (hG) hO hE1 hFc1 hFv1 hVv1 (hR1)) hZ (own_k hw 53 rfl) (own_k hw 7 rfl) (by decide) (by decide)) q76a q76c (g := (mkF m 1 #[.val (.ref a1), .val (.ref a2), .unset, .unset] [(.ref a1)])) rfl (by rw [hml]; rfl) (Steps.refl _) (argsL := []) (rest := []) (lenOf own_pd_16 rfl) rfl (by show 2 * 0 + _ ≤ _; exact Nat.le_of_eq rfl) (hb hby d10_1) (fun _ _ => ⟨rfl, e0, (by decide : 0 + 0 ≤ _), (by decide : 0 + 0 ≤ _)⟩)
      dsimp only [Pt.U, Pt.locs, Pt.cells, Pt.slots] at X76 l76 y76 z76 st76 hQ76
      subst l76
      subst y76 z76
      obtain ⟨Nq76, eh76, hv76⟩ := hQ76
      have N76 := Fr.app N0 Nq76
      subst hv76
      obtain ⟨cq77, kq77, q77a, q77b, q77c⟩ := isOf hZ eh76 hE2
      obtain ⟨_, _, ⟨T77, L77, k77, n77⟩, -, X77, ⟨Lc77, hQ77, l77, y77, z77⟩, st77⟩ := X76.virtualBack hx (y := (⟨"java/lang/String", "length", "()I"⟩ : MethodName)) (z := (⟨"java/lang/String", "length", "()I"⟩ : MethodName)) hown (mvT hZ (own_k hw 49 rfl)) (mvT hZ (own_k hw 50 rfl)) (notFace_of_selects (args := #[]) (mvT hZ (own_k hw 52 rfl))) (mvT hZ (own_k hw 52 rfl)) (mvT hZ (own_k hw 51 rfl)) (by decide) (backOf (W := 1) (rmLen l Z a0 hw [] a2 cc2 tt2 k02 ll2 vv2 (2 : Int32) x2 y2 G1 h0 n0 Z0 hS (hG) hO hE2 hFc2 hFv2 hVv2 (hR2)) hZ (own_k hw 53 rfl) (own_k hw 7 rfl) (by decide) (by decide)) q77a q77c (g := (mkF m 5 #[.val (.ref a1), .val (.ref a2), .unset, .unset] [(.ref a2), (.int (2 : Int32))])) rfl (by rw [hml]; rfl) (Steps.refl _) (argsL := []) (rest := [(.int (2 : Int32))]) (lenOf own_pd_16 rfl) rfl (by show 2 * 0 + _ ≤ _; exact Nat.le_of_eq rfl) (hb hby d10_5) (fun _ _ => ⟨rfl, eh76, (by decide : 0 + 0 ≤ _), (by decide : 0 + 0 ≤ _)⟩)
      dsimp only [Pt.U, Pt.locs, Pt.cells, Pt.slots] at X77 l77 y77 z77 st77 hQ77
      subst l77
      subst y77 z77
      obtain ⟨Nq77, eh77, hv77⟩ := hQ77
      have N77 := Fr.app N76 Nq77
      subst hv77
      obtain ⟨_, _, ⟨T78, L78, k78, n78⟩, -, X78, ⟨Lc78, hQ78, l78, y78, z78⟩, st78⟩ := Jvm.LawKit.callS X77 hx (y := (⟨"java/lang/Math", "min", "(II)I"⟩ : MethodName)) hown (mvT hZ (own_k hw 59 rfl)) (mvT hZ (own_k hw 39 rfl)) (mvT hZ (own_k hw 40 rfl)) (mvT hZ (own_k hw 41 rfl)) (by decide) (backOf (W := 0) (rmMo l Z a0 hw [] (2 : Int32) (2 : Int32) h0 n0 Z0 ) hZ (own_k hw 41 rfl) (own_k hw 40 rfl) (by decide) (by decide)) (g := (mkF m 8 #[.val (.ref a1), .val (.ref a2), .unset, .unset] [(.int (2 : Int32)), (.int (2 : Int32))])) rfl (by rw [hml]; rfl) (argsL := [(.int (2 : Int32)), (.int (2 : Int32))]) (rest := []) (lenOf own_pd_17 rfl) rfl (by show 2 * 0 + _ ≤ _; exact Nat.le_of_eq rfl) (hb hby d10_8) (fun _ _ => ⟨rfl, eh77, (by decide : 0 + 0 ≤ _), (by decide : 0 + 0 ≤ _)⟩)
      dsimp only [Pt.U, Pt.locs, Pt.cells, Pt.slots] at X78 l78 y78 z78 st78 hQ78
      subst l78
      subst y78 z78
      obtain ⟨Nq78, eh78, hv78⟩ := hQ78
      have N78 := Fr.app N77 Nq78
      rcases hv78 with ⟨hv78, hd78_0⟩ | ⟨hv78, hd78_0⟩
      · subst hv78
        exact absurd hd78_0 (by decide)
      · subst hv78
        obtain ⟨cq79, kq79, q79a, q79b, q79c⟩ := isOf hZ eh78 hE1
        obtain ⟨_, _, ⟨T79, L79, k79, n79⟩, -, X79, ⟨Lc79, hQ79, l79, y79, z79⟩, st79⟩ := X78.virtualBack hx (y := (⟨"java/lang/String", "charAt", "(I)C"⟩ : MethodName)) (z := (⟨"java/lang/String", "charAt", "(I)C"⟩ : MethodName)) hown (mvT hZ (own_k hw 87 rfl)) (mvT hZ (own_k hw 88 rfl)) (notFace_of_selects (args := #[]) (mvT hZ (own_k hw 90 rfl))) (mvT hZ (own_k hw 90 rfl)) (mvT hZ (own_k hw 89 rfl)) (by decide) (backOf (W := 0) (rmCa0 l Z a0 hw [] a1 cc1 tt1 k01 ll1 vv1 (2 : Int32) x1 y1 G1 fv h0 n0 Z0 hS (hG) hSa hSh hSl hSf (hfr) hO hE1 hFc1 hFv1 hVv1 (hR1) (by decide) (hHx1)) hZ (own_k hw 91 rfl) (own_k hw 7 rfl) (by decide) (by decide)) q79a q79c (g := (mkF m 21 #[.val (.ref a1), .val (.ref a2), .val (.int (2 : Int32)), .val (.int (0 : Int32))] [(.int (0 : Int32)), (.ref a1)])) rfl (by rw [hml]; rfl) (Steps.refl _) (argsL := [(.int (0 : Int32))]) (rest := []) (lenOf own_pd_18 rfl) rfl (by show 2 * 0 + _ ≤ _; exact Nat.le_of_eq rfl) (hb hby d10_21) (fun _ _ => ⟨rfl, eh78, (by decide : 0 + 0 ≤ _), (by decide : 0 + 0 ≤ _)⟩)
        dsimp only [Pt.U, Pt.locs, Pt.cells, Pt.slots] at X79 l79 y79 z79 st79 hQ79
        subst l79
        subst y79 z79
        obtain ⟨Nq79, eh79, hv79⟩ := hQ79
        have N79 := Fr.app N78 Nq79
        subst hv79
        obtain ⟨cq80, kq80, q80a, q80b, q80c⟩ := isOf hZ eh79 hE2
        obtain ⟨_, _, ⟨T80, L80, k80, n80⟩, -, X80, ⟨Lc80, hQ80, l80, y80, z80⟩, st80⟩ := X79.virtualBack hx (y := (⟨"java/lang/String", "charAt", "(I)C"⟩ : MethodName)) (z := (⟨"java/lang/String", "charAt", "(I)C"⟩ : MethodName)) hown (mvT hZ (own_k hw 87 rfl)) (mvT hZ (own_k hw 88 rfl)) (notFace_of_selects (args := #[]) (mvT hZ (own_k hw 90 rfl))) (mvT hZ (own_k hw 90 rfl)) (mvT hZ (own_k hw 89 rfl)) (by decide) (backOf (W := 1) (rmCa0 l Z a0 hw [] a2 cc2 tt2 k02 ll2 vv2 (2 : Int32) x2 y2 G1 fv h0 n0 Z0 hS (hG) hSa hSh hSl hSf (hfr) hO hE2 hFc2 hFv2 hVv2 (hR2) (by decide) (hHx2)) hZ (own_k hw 91 rfl) (own_k hw 7 rfl) (by decide) (by decide)) q80a q80c (g := (mkF m 26 #[.val (.ref a1), .val (.ref a2), .val (.int (2 : Int32)), .val (.int (0 : Int32))] [(.int (0 : Int32)), (.ref a2), (.int x1)])) rfl (by rw [hml]; rfl) (Steps.refl _) (argsL := [(.int (0 : Int32))]) (rest := [(.int x1)]) (lenOf own_pd_18 rfl) rfl (by show 2 * 0 + _ ≤ _; exact Nat.le_of_eq rfl) (hb hby d10_26) (fun _ _ => ⟨rfl, eh79, (by decide : 0 + 0 ≤ _), (by decide : 0 + 0 ≤ _)⟩)
        dsimp only [Pt.U, Pt.locs, Pt.cells, Pt.slots] at X80 l80 y80 z80 st80 hQ80
        subst l80
        subst y80 z80
        obtain ⟨Nq80, eh80, hv80⟩ := hQ80
        have N80 := Fr.app N79 Nq80
        subst hv80
        have pre81 : ∀ t, Steps p.tables e below (T80.setTop (mkF m 29 #[.val (.ref a1), .val (.ref a2), .val (.int (2 : Int32)), .val (.int (0 : Int32))] [(.int x2), (.int x1)])) t → Steps p.tables e below (s₁.setTop (entryFrame m #[(.ref a1), (.ref a2)] 4)) t := fun t kt => pre0 t (by
          show Steps p.tables e below (s₁.setTop (mkF m 0 #[.val (.ref a1), .val (.ref a2), .unset, .unset] [])) _
          refine XS.aloadN X0.here hx rfl (hb hby d10_0) rfl rfl ?_
          show Steps p.tables e below (s₁.setTop (mkF m 1 #[.val (.ref a1), .val (.ref a2), .unset, .unset] [(.ref a1)])) _
          refine st76.trans ?_
          show Steps p.tables e below (T76.setTop (mkF m 4 #[.val (.ref a1), .val (.ref a2), .unset, .unset] [(.int (2 : Int32))])) _
          refine XS.aloadN X76.here hx rfl (hb hby d10_4) rfl rfl ?_
          show Steps p.tables e below (T76.setTop (mkF m 5 #[.val (.ref a1), .val (.ref a2), .unset, .unset] [(.ref a2), (.int (2 : Int32))])) _
          refine st77.trans ?_
          show Steps p.tables e below (T77.setTop (mkF m 8 #[.val (.ref a1), .val (.ref a2), .unset, .unset] [(.int (2 : Int32)), (.int (2 : Int32))])) _
          refine st78 _ ?_
          show Steps p.tables e below (T78.setTop (mkF m 11 #[.val (.ref a1), .val (.ref a2), .unset, .unset] [(.int (2 : Int32))])) _
          refine XS.istoreN X78.here hx rfl (hb hby d10_11) rfl (l' := #[.val (.ref a1), .val (.ref a2), .val (.int (2 : Int32)), .unset]) rfl ?_
          show Steps p.tables e below (T78.setTop (mkF m 12 #[.val (.ref a1), .val (.ref a2), .val (.int (2 : Int32)), .unset] [])) _
          refine XS.iconst X78.here hx rfl (hb hby d10_12) ?_
          show Steps p.tables e below (T78.setTop (mkF m 13 #[.val (.ref a1), .val (.ref a2), .val (.int (2 : Int32)), .unset] [(.int (0 : Int32))])) _
          refine XS.istoreN X78.here hx rfl (hb hby d10_13) rfl (l' := #[.val (.ref a1), .val (.ref a2), .val (.int (2 : Int32)), .val (.int (0 : Int32))]) rfl ?_
          show Steps p.tables e below (T78.setTop (mkF m 14 #[.val (.ref a1), .val (.ref a2), .val (.int (2 : Int32)), .val (.int (0 : Int32))] [])) _
          refine XS.iloadN X78.here hx rfl (hb hby d10_14) rfl ?_
          show Steps p.tables e below (T78.setTop (mkF m 15 #[.val (.ref a1), .val (.ref a2), .val (.int (2 : Int32)), .val (.int (0 : Int32))] [(.int (0 : Int32))])) _
          refine XS.iloadN X78.here hx rfl (hb hby d10_15) rfl ?_
          show Steps p.tables e below (T78.setTop (mkF m 16 #[.val (.ref a1), .val (.ref a2), .val (.int (2 : Int32)), .val (.int (0 : Int32))] [(.int (2 : Int32)), (.int (0 : Int32))])) _
          refine XS.icmpNo X78.here hx rfl (hb hby d10_16) rfl (by decide) ?_
          show Steps p.tables e below (T78.setTop (mkF m 19 #[.val (.ref a1), .val (.ref a2), .val (.int (2 : Int32)), .val (.int (0 : Int32))] [])) _
          refine XS.aloadN X78.here hx rfl (hb hby d10_19) rfl rfl ?_
          show Steps p.tables e below (T78.setTop (mkF m 20 #[.val (.ref a1), .val (.ref a2), .val (.int (2 : Int32)), .val (.int (0 : Int32))] [(.ref a1)])) _
          refine XS.iloadN X78.here hx rfl (hb hby d10_20) rfl ?_
          show Steps p.tables e below (T78.setTop (mkF m 21 #[.val (.ref a1), .val (.ref a2), .val (.int (2 : Int32)), .val (.int (0 : Int32))] [(.int (0 : Int32)), (.ref a1)])) _
          refine st79.trans ?_
          show Steps p.tables e below (T79.setTop (mkF m 24 #[.val (.ref a1), .val (.ref a2), .val (.int (2 : Int32)), .val (.int (0 : Int32))] [(.int x1)])) _
          refine XS.aloadN X79.here hx rfl (hb hby d10_24) rfl rfl ?_
          show Steps p.tables e below (T79.setTop (mkF m 25 #[.val (.ref a1), .val (.ref a2), .val (.int (2 : Int32)), .val (.int (0 : Int32))] [(.ref a2), (.int x1)])) _
          refine XS.iloadN X79.here hx rfl (hb hby d10_25) rfl ?_
          show Steps p.tables e below (T79.setTop (mkF m 26 #[.val (.ref a1), .val (.ref a2), .val (.int (2 : Int32)), .val (.int (0 : Int32))] [(.int (0 : Int32)), (.ref a2), (.int x1)])) _
          refine st80.trans ?_
          exact kt)
        by_cases hcx82 : x1 = x2
        · skip
          obtain ⟨cq83, kq83, q83a, q83b, q83c⟩ := isOf hZ eh80 hE1
          obtain ⟨_, _, ⟨T83, L83, k83, n83⟩, -, X83, ⟨Lc83, hQ83, l83, y83, z83⟩, st83⟩ := X80.virtualBack hx (y := (⟨"java/lang/String", "charAt", "(I)C"⟩ : MethodName)) (z := (⟨"java/lang/String", "charAt", "(I)C"⟩ : MethodName)) hown (mvT hZ (own_k hw 87 rfl)) (mvT hZ (own_k hw 88 rfl)) (notFace_of_selects (args := #[]) (mvT hZ (own_k hw 90 rfl))) (mvT hZ (own_k hw 90 rfl)) (mvT hZ (own_k hw 89 rfl)) (by decide) (backOf (W := 0) (rmCa1 l Z a0 hw [] a1 cc1 tt1 k01 ll1 vv1 (2 : Int32) x1 y1 G1 fv h0 n0 Z0 hS (hG) hSa hSh hSl hSf (hfr) hO hE1 hFc1 hFv1 hVv1 (hR1) (by decide) (hHy1)) hZ (own_k hw 91 rfl) (own_k hw 7 rfl) (by decide) (by decide)) q83a q83c (g := (mkF m 21 #[.val (.ref a1), .val (.ref a2), .val (.int (2 : Int32)), .val (.int (1 : Int32))] [(.int (1 : Int32)), (.ref a1)])) rfl (by rw [hml]; rfl) (Steps.refl _) (argsL := [(.int (1 : Int32))]) (rest := []) (lenOf own_pd_18 rfl) rfl (by show 2 * 0 + _ ≤ _; exact Nat.le_of_eq rfl) (hb hby d10_21) (fun _ _ => ⟨rfl, eh80, (by decide : 0 + 0 ≤ _), (by decide : 0 + 0 ≤ _)⟩)
          dsimp only [Pt.U, Pt.locs, Pt.cells, Pt.slots] at X83 l83 y83 z83 st83 hQ83
          subst l83
          subst y83 z83
          obtain ⟨Nq83, eh83, hv83⟩ := hQ83
          have N83 := Fr.app N80 Nq83
          subst hv83
          obtain ⟨cq84, kq84, q84a, q84b, q84c⟩ := isOf hZ eh83 hE2
          obtain ⟨_, _, ⟨T84, L84, k84, n84⟩, -, X84, ⟨Lc84, hQ84, l84, y84, z84⟩, st84⟩ := X83.virtualBack hx (y := (⟨"java/lang/String", "charAt", "(I)C"⟩ : MethodName)) (z := (⟨"java/lang/String", "charAt", "(I)C"⟩ : MethodName)) hown (mvT hZ (own_k hw 87 rfl)) (mvT hZ (own_k hw 88 rfl)) (notFace_of_selects (args := #[]) (mvT hZ (own_k hw 90 rfl))) (mvT hZ (own_k hw 90 rfl)) (mvT hZ (own_k hw 89 rfl)) (by decide) (backOf (W := 1) (rmCa1 l Z a0 hw [] a2 cc2 tt2 k02 ll2 vv2 (2 : Int32) x2 y2 G1 fv h0 n0 Z0 hS (hG) hSa hSh hSl hSf (hfr) hO hE2 hFc2 hFv2 hVv2 (hR2) (by decide) (hHy2)) hZ (own_k hw 91 rfl) (own_k hw 7 rfl) (by decide) (by decide)) q84a q84c (g := (mkF m 26 #[.val (.ref a1), .val (.ref a2), .val (.int (2 : Int32)), .val (.int (1 : Int32))] [(.int (1 : Int32)), (.ref a2), (.int y1)])) rfl (by rw [hml]; rfl) (Steps.refl _) (argsL := [(.int (1 : Int32))]) (rest := [(.int y1)]) (lenOf own_pd_18 rfl) rfl (by show 2 * 0 + _ ≤ _; exact Nat.le_of_eq rfl) (hb hby d10_26) (fun _ _ => ⟨rfl, eh83, (by decide : 0 + 0 ≤ _), (by decide : 0 + 0 ≤ _)⟩)
          dsimp only [Pt.U, Pt.locs, Pt.cells, Pt.slots] at X84 l84 y84 z84 st84 hQ84
          subst l84
          subst y84 z84
          obtain ⟨Nq84, eh84, hv84⟩ := hQ84
          have N84 := Fr.app N83 Nq84
          subst hv84
          have pre85 : ∀ t, Steps p.tables e below (T84.setTop (mkF m 29 #[.val (.ref a1), .val (.ref a2), .val (.int (2 : Int32)), .val (.int (1 : Int32))] [(.int y2), (.int y1)])) t → Steps p.tables e below (s₁.setTop (entryFrame m #[(.ref a1), (.ref a2)] 4)) t := fun t kt => pre81 t (by
            show Steps p.tables e below (T80.setTop (mkF m 29 #[.val (.ref a1), .val (.ref a2), .val (.int (2 : Int32)), .val (.int (0 : Int32))] [(.int x2), (.int x1)])) _
            refine XS.icmpYes X80.here hx rfl (pc0 := 29) (pc' := 52) rfl (hb hby d10_29) rfl (teq hcx82).1 (by decide) (by decide) ?_
            show Steps p.tables e below (T80.setTop (mkF m 52 #[.val (.ref a1), .val (.ref a2), .val (.int (2 : Int32)), .val (.int (0 : Int32))] [])) _
            refine XS.iinc X80.here hx rfl (hb hby d10_52) rfl (l' := #[.val (.ref a1), .val (.ref a2), .val (.int (2 : Int32)), .val (.int (1 : Int32))]) rfl ?_
            show Steps p.tables e below (T80.setTop (mkF m 55 #[.val (.ref a1), .val (.ref a2), .val (.int (2 : Int32)), .val (.int (1 : Int32))] [])) _
            refine XS.goto X80.here hx rfl (pc0 := 55) (pc' := 14) rfl (hb hby d10_55) (by decide) (by decide) ?_
            show Steps p.tables e below (T80.setTop (mkF m 14 #[.val (.ref a1), .val (.ref a2), .val (.int (2 : Int32)), .val (.int (1 : Int32))] [])) _
            refine XS.iloadN X80.here hx rfl (hb hby d10_14) rfl ?_
            show Steps p.tables e below (T80.setTop (mkF m 15 #[.val (.ref a1), .val (.ref a2), .val (.int (2 : Int32)), .val (.int (1 : Int32))] [(.int (1 : Int32))])) _
            refine XS.iloadN X80.here hx rfl (hb hby d10_15) rfl ?_
            show Steps p.tables e below (T80.setTop (mkF m 16 #[.val (.ref a1), .val (.ref a2), .val (.int (2 : Int32)), .val (.int (1 : Int32))] [(.int (2 : Int32)), (.int (1 : Int32))])) _
            refine XS.icmpNo X80.here hx rfl (hb hby d10_16) rfl (by decide) ?_
            show Steps p.tables e below (T80.setTop (mkF m 19 #[.val (.ref a1), .val (.ref a2), .val (.int (2 : Int32)), .val (.int (1 : Int32))] [])) _
            refine XS.aloadN X80.here hx rfl (hb hby d10_19) rfl rfl ?_
            show Steps p.tables e below (T80.setTop (mkF m 20 #[.val (.ref a1), .val (.ref a2), .val (.int (2 : Int32)), .val (.int (1 : Int32))] [(.ref a1)])) _
            refine XS.iloadN X80.here hx rfl (hb hby d10_20) rfl ?_
            show Steps p.tables e below (T80.setTop (mkF m 21 #[.val (.ref a1), .val (.ref a2), .val (.int (2 : Int32)), .val (.int (1 : Int32))] [(.int (1 : Int32)), (.ref a1)])) _
            refine st83.trans ?_
            show Steps p.tables e below (T83.setTop (mkF m 24 #[.val (.ref a1), .val (.ref a2), .val (.int (2 : Int32)), .val (.int (1 : Int32))] [(.int y1)])) _
            refine XS.aloadN X83.here hx rfl (hb hby d10_24) rfl rfl ?_
            show Steps p.tables e below (T83.setTop (mkF m 25 #[.val (.ref a1), .val (.ref a2), .val (.int (2 : Int32)), .val (.int (1 : Int32))] [(.ref a2), (.int y1)])) _
            refine XS.iloadN X83.here hx rfl (hb hby d10_25) rfl ?_
            show Steps p.tables e below (T83.setTop (mkF m 26 #[.val (.ref a1), .val (.ref a2), .val (.int (2 : Int32)), .val (.int (1 : Int32))] [(.int (1 : Int32)), (.ref a2), (.int y1)])) _
            refine st84.trans ?_
            exact kt)
          by_cases hcx86 : y1 = y2
          · skip
            obtain ⟨cq87, kq87, q87a, q87b, q87c⟩ := isOf hZ eh84 hE1
            obtain ⟨_, _, ⟨T87, L87, k87, n87⟩, -, X87, ⟨Lc87, hQ87, l87, y87, z87⟩, st87⟩ := X84.virtualBack hx (y := (⟨"java/lang/String", "length", "()I"⟩ : MethodName)) (z := (⟨"java/lang/String", "length", "()I"⟩ : MethodName)) hown (mvT hZ (own_k hw 49 rfl)) (mvT hZ (own_k hw 50 rfl)) (notFace_of_selects (args := #[]) (mvT hZ (own_k hw 52 rfl))) (mvT hZ (own_k hw 52 rfl)) (mvT hZ (own_k hw 51 rfl)) (by decide) (backOf (W := 0) (rmLen l Z a0 hw [] a1 cc1 tt1 k01 ll1 vv1 (2 : Int32) x1 y1 G1 h0 n0 Z0 hS (hG) hO hE1 hFc1 hFv1 hVv1 (hR1)) hZ (own_k hw 53 rfl) (own_k hw 7 rfl) (by decide) (by decide)) q87a q87c (g := (mkF m 59 #[.val (.ref a1), .val (.ref a2), .val (.int (2 : Int32)), .val (.int (2 : Int32))] [(.ref a1)])) rfl (by rw [hml]; rfl) (Steps.refl _) (argsL := []) (rest := []) (lenOf own_pd_16 rfl) rfl (by show 2 * 0 + _ ≤ _; exact Nat.le_of_eq rfl) (hb hby d10_59) (fun _ _ => ⟨rfl, eh84, (by decide : 0 + 0 ≤ _), (by decide : 0 + 0 ≤ _)⟩)
            dsimp only [Pt.U, Pt.locs, Pt.cells, Pt.slots] at X87 l87 y87 z87 st87 hQ87
            subst l87
            subst y87 z87
            obtain ⟨Nq87, eh87, hv87⟩ := hQ87
            have N87 := Fr.app N84 Nq87
            subst hv87
            obtain ⟨cq88, kq88, q88a, q88b, q88c⟩ := isOf hZ eh87 hE2
            obtain ⟨_, _, ⟨T88, L88, k88, n88⟩, -, X88, ⟨Lc88, hQ88, l88, y88, z88⟩, st88⟩ := X87.virtualBack hx (y := (⟨"java/lang/String", "length", "()I"⟩ : MethodName)) (z := (⟨"java/lang/String", "length", "()I"⟩ : MethodName)) hown (mvT hZ (own_k hw 49 rfl)) (mvT hZ (own_k hw 50 rfl)) (notFace_of_selects (args := #[]) (mvT hZ (own_k hw 52 rfl))) (mvT hZ (own_k hw 52 rfl)) (mvT hZ (own_k hw 51 rfl)) (by decide) (backOf (W := 1) (rmLen l Z a0 hw [] a2 cc2 tt2 k02 ll2 vv2 (2 : Int32) x2 y2 G1 h0 n0 Z0 hS (hG) hO hE2 hFc2 hFv2 hVv2 (hR2)) hZ (own_k hw 53 rfl) (own_k hw 7 rfl) (by decide) (by decide)) q88a q88c (g := (mkF m 63 #[.val (.ref a1), .val (.ref a2), .val (.int (2 : Int32)), .val (.int (2 : Int32))] [(.ref a2), (.int (2 : Int32))])) rfl (by rw [hml]; rfl) (Steps.refl _) (argsL := []) (rest := [(.int (2 : Int32))]) (lenOf own_pd_16 rfl) rfl (by show 2 * 0 + _ ≤ _; exact Nat.le_of_eq rfl) (hb hby d10_63) (fun _ _ => ⟨rfl, eh87, (by decide : 0 + 0 ≤ _), (by decide : 0 + 0 ≤ _)⟩)
            dsimp only [Pt.U, Pt.locs, Pt.cells, Pt.slots] at X88 l88 y88 z88 st88 hQ88
            subst l88
            subst y88 z88
            obtain ⟨Nq88, eh88, hv88⟩ := hQ88
            have N88 := Fr.app N87 Nq88
            subst hv88
            obtain ⟨_, _, ⟨T89, L89, k89, n89⟩, -, X89, ⟨Lc89, hQ89, l89, y89, z89⟩, st89⟩ := Jvm.LawKit.callS X88 hx (y := (⟨"java/lang/Integer", "compare", "(II)I"⟩ : MethodName)) hown (mvT hZ (own_k hw 60 rfl)) (mvT hZ (own_k hw 61 rfl)) (mvT hZ (own_k hw 62 rfl)) (mvT hZ (own_k hw 63 rfl)) (by decide) (backOf (W := 0) (rmIc l Z a0 hw [] (2 : Int32) (2 : Int32) h0 n0 Z0 ) hZ (own_k hw 63 rfl) (own_k hw 62 rfl) (by decide) (by decide)) (g := (mkF m 66 #[.val (.ref a1), .val (.ref a2), .val (.int (2 : Int32)), .val (.int (2 : Int32))] [(.int (2 : Int32)), (.int (2 : Int32))])) rfl (by rw [hml]; rfl) (argsL := [(.int (2 : Int32)), (.int (2 : Int32))]) (rest := []) (lenOf own_pd_17 rfl) rfl (by show 2 * 0 + _ ≤ _; exact Nat.le_of_eq rfl) (hb hby d10_66) (fun _ _ => ⟨rfl, eh88, (by decide : 0 + 0 ≤ _), (by decide : 0 + 0 ≤ _)⟩)
            dsimp only [Pt.U, Pt.locs, Pt.cells, Pt.slots] at X89 l89 y89 z89 st89 hQ89
            subst l89
            subst y89 z89
            obtain ⟨Nq89, eh89, hv89⟩ := hQ89
            have N89 := Fr.app N88 Nq89
            subst hv89
            obtain ⟨fs, hr, hrun, hended, hW, hsame⟩ := X89.leave (v := (some (.int (own_ic (2 : Int32) (2 : Int32))))) (fun h => by rw [Bd.returns] at h; cases h)
            refine ⟨_, _, pre85 _ ?_, hrun, hended, _, _, rfl, ?_, ⟨_, rfl⟩, hW, hsame.mono (by decide) (by decide)⟩
            · show Steps p.tables e below (T84.setTop (mkF m 29 #[.val (.ref a1), .val (.ref a2), .val (.int (2 : Int32)), .val (.int (1 : Int32))] [(.int y2), (.int y1)])) _
              refine XS.icmpYes X84.here hx rfl (pc0 := 29) (pc' := 52) rfl (hb hby d10_29) rfl (teq hcx86).1 (by decide) (by decide) ?_
              show Steps p.tables e below (T84.setTop (mkF m 52 #[.val (.ref a1), .val (.ref a2), .val (.int (2 : Int32)), .val (.int (1 : Int32))] [])) _
              refine XS.iinc X84.here hx rfl (hb hby d10_52) rfl (l' := #[.val (.ref a1), .val (.ref a2), .val (.int (2 : Int32)), .val (.int (2 : Int32))]) rfl ?_
              show Steps p.tables e below (T84.setTop (mkF m 55 #[.val (.ref a1), .val (.ref a2), .val (.int (2 : Int32)), .val (.int (2 : Int32))] [])) _
              refine XS.goto X84.here hx rfl (pc0 := 55) (pc' := 14) rfl (hb hby d10_55) (by decide) (by decide) ?_
              show Steps p.tables e below (T84.setTop (mkF m 14 #[.val (.ref a1), .val (.ref a2), .val (.int (2 : Int32)), .val (.int (2 : Int32))] [])) _
              refine XS.iloadN X84.here hx rfl (hb hby d10_14) rfl ?_
              show Steps p.tables e below (T84.setTop (mkF m 15 #[.val (.ref a1), .val (.ref a2), .val (.int (2 : Int32)), .val (.int (2 : Int32))] [(.int (2 : Int32))])) _
              refine XS.iloadN X84.here hx rfl (hb hby d10_15) rfl ?_
              show Steps p.tables e below (T84.setTop (mkF m 16 #[.val (.ref a1), .val (.ref a2), .val (.int (2 : Int32)), .val (.int (2 : Int32))] [(.int (2 : Int32)), (.int (2 : Int32))])) _
              refine XS.icmpYes X84.here hx rfl (pc0 := 16) (pc' := 58) rfl (hb hby d10_16) rfl (by decide) (by decide) (by decide) ?_
              show Steps p.tables e below (T84.setTop (mkF m 58 #[.val (.ref a1), .val (.ref a2), .val (.int (2 : Int32)), .val (.int (2 : Int32))] [])) _
              refine XS.aloadN X84.here hx rfl (hb hby d10_58) rfl rfl ?_
              show Steps p.tables e below (T84.setTop (mkF m 59 #[.val (.ref a1), .val (.ref a2), .val (.int (2 : Int32)), .val (.int (2 : Int32))] [(.ref a1)])) _
              refine st87.trans ?_
              show Steps p.tables e below (T87.setTop (mkF m 62 #[.val (.ref a1), .val (.ref a2), .val (.int (2 : Int32)), .val (.int (2 : Int32))] [(.int (2 : Int32))])) _
              refine XS.aloadN X87.here hx rfl (hb hby d10_62) rfl rfl ?_
              show Steps p.tables e below (T87.setTop (mkF m 63 #[.val (.ref a1), .val (.ref a2), .val (.int (2 : Int32)), .val (.int (2 : Int32))] [(.ref a2), (.int (2 : Int32))])) _
              refine st88.trans ?_
              show Steps p.tables e below (T88.setTop (mkF m 66 #[.val (.ref a1), .val (.ref a2), .val (.int (2 : Int32)), .val (.int (2 : Int32))] [(.int (2 : Int32)), (.int (2 : Int32))])) _
              refine st89 _ ?_
              show Steps p.tables e below (T89.setTop (mkF m 69 #[.val (.ref a1), .val (.ref a2), .val (.int (2 : Int32)), .val (.int (2 : Int32))] [(.int (own_ic (2 : Int32) (2 : Int32)))])) _
              exact retOut X89 hx Bd.returns rfl (Or.inl ⟨rfl, Or.inl rfl, _, rfl⟩) (hb hby d10_69) hr
            · show Qcmp Z a1 a2 cc1 tt1 k01 ll1 vv1 (2 : Int32) x1 y1 cc2 tt2 k02 ll2 vv2 (2 : Int32) x2 y2 G1 fv h0 n0 _ T89.heap _
              rw [eh89]
              exact ⟨N89, rfl, (by unfold own_cmp; rw [if_neg (fun q => q.2 hcx82), if_neg (fun q => q.2 hcx86)])⟩
          · skip
            obtain ⟨cq90, kq90, q90a, q90b, q90c⟩ := isOf hZ eh84 hE1
            obtain ⟨_, _, ⟨T90, L90, k90, n90⟩, -, X90, ⟨Lc90, hQ90, l90, y90, z90⟩, st90⟩ := X84.virtualBack hx (y := (⟨"java/lang/String", "charAt", "(I)C"⟩ : MethodName)) (z := (⟨"java/lang/String", "charAt", "(I)C"⟩ : MethodName)) hown (mvT hZ (own_k hw 87 rfl)) (mvT hZ (own_k hw 88 rfl)) (notFace_of_selects (args := #[]) (mvT hZ (own_k hw 90 rfl))) (mvT hZ (own_k hw 90 rfl)) (mvT hZ (own_k hw 89 rfl)) (by decide) (backOf (W := 0) (rmCa1 l Z a0 hw [] a1 cc1 tt1 k01 ll1 vv1 (2 : Int32) x1 y1 G1 fv h0 n0 Z0 hS (hG) hSa hSh hSl hSf (hfr) hO hE1 hFc1 hFv1 hVv1 (hR1) (by decide) (hHy1)) hZ (own_k hw 91 rfl) (own_k hw 7 rfl) (by decide) (by decide)) q90a q90c (g := (mkF m 34 #[.val (.ref a1), .val (.ref a2), .val (.int (2 : Int32)), .val (.int (1 : Int32))] [(.int (1 : Int32)), (.ref a1)])) rfl (by rw [hml]; rfl) (Steps.refl _) (argsL := [(.int (1 : Int32))]) (rest := []) (lenOf own_pd_18 rfl) rfl (by show 2 * 0 + _ ≤ _; exact Nat.le_of_eq rfl) (hb hby d10_34) (fun _ _ => ⟨rfl, eh84, (by decide : 0 + 0 ≤ _), (by decide : 0 + 0 ≤ _)⟩)
            dsimp only [Pt.U, Pt.locs, Pt.cells, Pt.slots] at X90 l90 y90 z90 st90 hQ90
            subst l90
            subst y90 z90
            obtain ⟨Nq90, eh90, hv90⟩ := hQ90
            have N90 := Fr.app N84 Nq90
            subst hv90
            obtain ⟨_, _, ⟨T91, L91, k91, n91⟩, -, X91, ⟨Lc91, hQ91, l91, y91, z91⟩, st91⟩ := Jvm.LawKit.callS X90 hx (y := (⟨"com/example/topics_into_queries/topicsintoqueries/CodePoints", "rank", "(C)I"⟩ : MethodName)) hown (mvT hZ (own_k hw 114 rfl)) (mvT hZ (own_k hw 115 rfl)) (mvT hZ (own_k hw 47 rfl)) (mvT hZ (own_k hw 116 rfl)) (by decide) (backOf (W := 0) (rmRk l Z a0 hw [] y1 h0 n0 Z0 ) hZ (own_k hw 116 rfl) (own_k hw 47 rfl) (by decide) (by decide)) (g := (mkF m 37 #[.val (.ref a1), .val (.ref a2), .val (.int (2 : Int32)), .val (.int (1 : Int32))] [(.int y1)])) rfl (by rw [hml]; rfl) (argsL := [(.int y1)]) (rest := []) (lenOf own_pd_19 rfl) rfl (by show 2 * 0 + _ ≤ _; exact Nat.le_of_eq rfl) (hb hby d10_37) (fun _ _ => ⟨rfl, eh90, (by decide : 0 + 0 ≤ _), (by decide : 0 + 0 ≤ _)⟩)
            dsimp only [Pt.U, Pt.locs, Pt.cells, Pt.slots] at X91 l91 y91 z91 st91 hQ91
            subst l91
            subst y91 z91
            obtain ⟨Nq91, eh91, hv91⟩ := hQ91
            have N91 := Fr.app N90 Nq91
            subst hv91
            obtain ⟨cq92, kq92, q92a, q92b, q92c⟩ := isOf hZ eh91 hE2
            obtain ⟨_, _, ⟨T92, L92, k92, n92⟩, -, X92, ⟨Lc92, hQ92, l92, y92, z92⟩, st92⟩ := X91.virtualBack hx (y := (⟨"java/lang/String", "charAt", "(I)C"⟩ : MethodName)) (z := (⟨"java/lang/String", "charAt", "(I)C"⟩ : MethodName)) hown (mvT hZ (own_k hw 87 rfl)) (mvT hZ (own_k hw 88 rfl)) (notFace_of_selects (args := #[]) (mvT hZ (own_k hw 90 rfl))) (mvT hZ (own_k hw 90 rfl)) (mvT hZ (own_k hw 89 rfl)) (by decide) (backOf (W := 1) (rmCa1 l Z a0 hw [] a2 cc2 tt2 k02 ll2 vv2 (2 : Int32) x2 y2 G1 fv h0 n0 Z0 hS (hG) hSa hSh hSl hSf (hfr) hO hE2 hFc2 hFv2 hVv2 (hR2) (by decide) (hHy2)) hZ (own_k hw 91 rfl) (own_k hw 7 rfl) (by decide) (by decide)) q92a q92c (g := (mkF m 42 #[.val (.ref a1), .val (.ref a2), .val (.int (2 : Int32)), .val (.int (1 : Int32))] [(.int (1 : Int32)), (.ref a2), (.int (own_rk y1))])) rfl (by rw [hml]; rfl) (Steps.refl _) (argsL := [(.int (1 : Int32))]) (rest := [(.int (own_rk y1))]) (lenOf own_pd_18 rfl) rfl (by show 2 * 0 + _ ≤ _; exact Nat.le_of_eq rfl) (hb hby d10_42) (fun _ _ => ⟨rfl, eh91, (by decide : 0 + 0 ≤ _), (by decide : 0 + 0 ≤ _)⟩)
            dsimp only [Pt.U, Pt.locs, Pt.cells, Pt.slots] at X92 l92 y92 z92 st92 hQ92
            subst l92
            subst y92 z92
            obtain ⟨Nq92, eh92, hv92⟩ := hQ92
            have N92 := Fr.app N91 Nq92
            subst hv92
            obtain ⟨_, _, ⟨T93, L93, k93, n93⟩, -, X93, ⟨Lc93, hQ93, l93, y93, z93⟩, st93⟩ := Jvm.LawKit.callS X92 hx (y := (⟨"com/example/topics_into_queries/topicsintoqueries/CodePoints", "rank", "(C)I"⟩ : MethodName)) hown (mvT hZ (own_k hw 114 rfl)) (mvT hZ (own_k hw 115 rfl)) (mvT hZ (own_k hw 47 rfl)) (mvT hZ (own_k hw 116 rfl)) (by decide) (backOf (W := 1) (rmRk l Z a0 hw [] y2 h0 n0 Z0 ) hZ (own_k hw 116 rfl) (own_k hw 47 rfl) (by decide) (by decide)) (g := (mkF m 45 #[.val (.ref a1), .val (.ref a2), .val (.int (2 : Int32)), .val (.int (1 : Int32))] [(.int y2), (.int (own_rk y1))])) rfl (by rw [hml]; rfl) (argsL := [(.int y2)]) (rest := [(.int (own_rk y1))]) (lenOf own_pd_19 rfl) rfl (by show 2 * 0 + _ ≤ _; exact Nat.le_of_eq rfl) (hb hby d10_45) (fun _ _ => ⟨rfl, eh92, (by decide : 0 + 0 ≤ _), (by decide : 0 + 0 ≤ _)⟩)
            dsimp only [Pt.U, Pt.locs, Pt.cells, Pt.slots] at X93 l93 y93 z93 st93 hQ93
            subst l93
            subst y93 z93
            obtain ⟨Nq93, eh93, hv93⟩ := hQ93
            have N93 := Fr.app N92 Nq93
            subst hv93
            obtain ⟨_, _, ⟨T94, L94, k94, n94⟩, -, X94, ⟨Lc94, hQ94, l94, y94, z94⟩, st94⟩ := Jvm.LawKit.callS X93 hx (y := (⟨"java/lang/Integer", "compare", "(II)I"⟩ : MethodName)) hown (mvT hZ (own_k hw 60 rfl)) (mvT hZ (own_k hw 61 rfl)) (mvT hZ (own_k hw 62 rfl)) (mvT hZ (own_k hw 63 rfl)) (by decide) (backOf (W := 0) (rmIc l Z a0 hw [] (own_rk y1) (own_rk y2) h0 n0 Z0 ) hZ (own_k hw 63 rfl) (own_k hw 62 rfl) (by decide) (by decide)) (g := (mkF m 48 #[.val (.ref a1), .val (.ref a2), .val (.int (2 : Int32)), .val (.int (1 : Int32))] [(.int (own_rk y2)), (.int (own_rk y1))])) rfl (by rw [hml]; rfl) (argsL := [(.int (own_rk y1)), (.int (own_rk y2))]) (rest := []) (lenOf own_pd_17 rfl) rfl (by show 2 * 0 + _ ≤ _; exact Nat.le_of_eq rfl) (hb hby d10_48) (fun _ _ => ⟨rfl, eh93, (by decide : 0 + 0 ≤ _), (by decide : 0 + 0 ≤ _)⟩)
            dsimp only [Pt.U, Pt.locs, Pt.cells, Pt.slots] at X94 l94 y94 z94 st94 hQ94
            subst l94
            subst y94 z94
            obtain ⟨Nq94, eh94, hv94⟩ := hQ94
            have N94 := Fr.app N93 Nq94
            subst hv94
            obtain ⟨fs, hr, hrun, hended, hW, hsame⟩ := X94.leave (v := (some (.int (own_ic (own_rk y1) (own_rk y2))))) (fun h => by rw [Bd.returns] at h; cases h)
            refine ⟨_, _, pre85 _ ?_, hrun, hended, _, _, rfl, ?_, ⟨_, rfl⟩, hW, hsame.mono (by decide) (by decide)⟩
            · show Steps p.tables e below (T84.setTop (mkF m 29 #[.val (.ref a1), .val (.ref a2), .val (.int (2 : Int32)), .val (.int (1 : Int32))] [(.int y2), (.int y1)])) _
              refine XS.icmpNo X84.here hx rfl (hb hby d10_29) rfl (feq hcx86).1 ?_
              show Steps p.tables e below (T84.setTop (mkF m 32 #[.val (.ref a1), .val (.ref a2), .val (.int (2 : Int32)), .val (.int (1 : Int32))] [])) _
              refine XS.aloadN X84.here hx rfl (hb hby d10_32) rfl rfl ?_
              show Steps p.tables e below (T84.setTop (mkF m 33 #[.val (.ref a1), .val (.ref a2), .val (.int (2 : Int32)), .val (.int (1 : Int32))] [(.ref a1)])) _
              refine XS.iloadN X84.here hx rfl (hb hby d10_33) rfl ?_
              show Steps p.tables e below (T84.setTop (mkF m 34 #[.val (.ref a1), .val (.ref a2), .val (.int (2 : Int32)), .val (.int (1 : Int32))] [(.int (1 : Int32)), (.ref a1)])) _
              refine st90.trans ?_
              show Steps p.tables e below (T90.setTop (mkF m 37 #[.val (.ref a1), .val (.ref a2), .val (.int (2 : Int32)), .val (.int (1 : Int32))] [(.int y1)])) _
              refine st91 _ ?_
              show Steps p.tables e below (T91.setTop (mkF m 40 #[.val (.ref a1), .val (.ref a2), .val (.int (2 : Int32)), .val (.int (1 : Int32))] [(.int (own_rk y1))])) _
              refine XS.aloadN X91.here hx rfl (hb hby d10_40) rfl rfl ?_
              show Steps p.tables e below (T91.setTop (mkF m 41 #[.val (.ref a1), .val (.ref a2), .val (.int (2 : Int32)), .val (.int (1 : Int32))] [(.ref a2), (.int (own_rk y1))])) _
              refine XS.iloadN X91.here hx rfl (hb hby d10_41) rfl ?_
              show Steps p.tables e below (T91.setTop (mkF m 42 #[.val (.ref a1), .val (.ref a2), .val (.int (2 : Int32)), .val (.int (1 : Int32))] [(.int (1 : Int32)), (.ref a2), (.int (own_rk y1))])) _
              refine st92.trans ?_
              show Steps p.tables e below (T92.setTop (mkF m 45 #[.val (.ref a1), .val (.ref a2), .val (.int (2 : Int32)), .val (.int (1 : Int32))] [(.int y2), (.int (own_rk y1))])) _
              refine st93 _ ?_
              show Steps p.tables e below (T93.setTop (mkF m 48 #[.val (.ref a1), .val (.ref a2), .val (.int (2 : Int32)), .val (.int (1 : Int32))] [(.int (own_rk y2)), (.int (own_rk y1))])) _
              refine st94 _ ?_
              show Steps p.tables e below (T94.setTop (mkF m 51 #[.val (.ref a1), .val (.ref a2), .val (.int (2 : Int32)), .val (.int (1 : Int32))] [(.int (own_ic (own_rk y1) (own_rk y2)))])) _
              exact retOut X94 hx Bd.returns rfl (Or.inl ⟨rfl, Or.inl rfl, _, rfl⟩) (hb hby d10_51) hr
            · show Qcmp Z a1 a2 cc1 tt1 k01 ll1 vv1 (2 : Int32) x1 y1 cc2 tt2 k02 ll2 vv2 (2 : Int32) x2 y2 G1 fv h0 n0 _ T94.heap _
              rw [eh94]
              exact ⟨N94, rfl, (by unfold own_cmp; rw [if_neg (fun q => q.2 hcx82), if_pos ⟨(by decide : (1 : Int32) < own_mn (2 : Int32) (2 : Int32)), hcx86⟩])⟩
        · skip
          obtain ⟨cq95, kq95, q95a, q95b, q95c⟩ := isOf hZ eh80 hE1
          obtain ⟨_, _, ⟨T95, L95, k95, n95⟩, -, X95, ⟨Lc95, hQ95, l95, y95, z95⟩, st95⟩ := X80.virtualBack hx (y := (⟨"java/lang/String", "charAt", "(I)C"⟩ : MethodName)) (z := (⟨"java/lang/String", "charAt", "(I)C"⟩ : MethodName)) hown (mvT hZ (own_k hw 87 rfl)) (mvT hZ (own_k hw 88 rfl)) (notFace_of_selects (args := #[]) (mvT hZ (own_k hw 90 rfl))) (mvT hZ (own_k hw 90 rfl)) (mvT hZ (own_k hw 89 rfl)) (by decide) (backOf (W := 0) (rmCa0 l Z a0 hw [] a1 cc1 tt1 k01 ll1 vv1 (2 : Int32) x1 y1 G1 fv h0 n0 Z0 hS (hG) hSa hSh hSl hSf (hfr) hO hE1 hFc1 hFv1 hVv1 (hR1) (by decide) (hHx1)) hZ (own_k hw 91 rfl) (own_k hw 7 rfl) (by decide) (by decide)) q95a q95c (g := (mkF m 34 #[.val (.ref a1), .val (.ref a2), .val (.int (2 : Int32)), .val (.int (0 : Int32))] [(.int (0 : Int32)), (.ref a1)])) rfl (by rw [hml]; rfl) (Steps.refl _) (argsL := [(.int (0 : Int32))]) (rest := []) (lenOf own_pd_18 rfl) rfl (by show 2 * 0 + _ ≤ _; exact Nat.le_of_eq rfl) (hb hby d10_34) (fun _ _ => ⟨rfl, eh80, (by decide : 0 + 0 ≤ _), (by decide : 0 + 0 ≤ _)⟩)
          dsimp only [Pt.U, Pt.locs, Pt.cells, Pt.slots] at X95 l95 y95 z95 st95 hQ95
          subst l95
          subst y95 z95
          obtain ⟨Nq95, eh95, hv95⟩ := hQ95
          have N95 := Fr.app N80 Nq95
          subst hv95
          obtain ⟨_, _, ⟨T96, L96, k96, n96⟩, -, X96, ⟨Lc96, hQ96, l96, y96, z96⟩, st96⟩ := Jvm.LawKit.callS X95 hx (y := (⟨"com/example/topics_into_queries/topicsintoqueries/CodePoints", "rank", "(C)I"⟩ : MethodName)) hown (mvT hZ (own_k hw 114 rfl)) (mvT hZ (own_k hw 115 rfl)) (mvT hZ (own_k hw 47 rfl)) (mvT hZ (own_k hw 116 rfl)) (by decide) (backOf (W := 0) (rmRk l Z a0 hw [] x1 h0 n0 Z0 ) hZ (own_k hw 116 rfl) (own_k hw 47 rfl) (by decide) (by decide)) (g := (mkF m 37 #[.val (.ref a1), .val (.ref a2), .val (.int (2 : Int32)), .val (.int (0 : Int32))] [(.int x1)])) rfl (by rw [hml]; rfl) (argsL := [(.int x1)]) (rest := []) (lenOf own_pd_19 rfl) rfl (by show 2 * 0 + _ ≤ _; exact Nat.le_of_eq rfl) (hb hby d10_37) (fun _ _ => ⟨rfl, eh95, (by decide : 0 + 0 ≤ _), (by decide : 0 + 0 ≤ _)⟩)
          dsimp only [Pt.U, Pt.locs, Pt.cells, Pt.slots] at X96 l96 y96 z96 st96 hQ96
          subst l96
          subst y96 z96
          obtain ⟨Nq96, eh96, hv96⟩ := hQ96
          have N96 := Fr.app N95 Nq96
          subst hv96
          obtain ⟨cq97, kq97, q97a, q97b, q97c⟩ := isOf hZ eh96 hE2
          obtain ⟨_, _, ⟨T97, L97, k97, n97⟩, -, X97, ⟨Lc97, hQ97, l97, y97, z97⟩, st97⟩ := X96.virtualBack hx (y := (⟨"java/lang/String", "charAt", "(I)C"⟩ : MethodName)) (z := (⟨"java/lang/String", "charAt", "(I)C"⟩ : MethodName)) hown (mvT hZ (own_k hw 87 rfl)) (mvT hZ (own_k hw 88 rfl)) (notFace_of_selects (args := #[]) (mvT hZ (own_k hw 90 rfl))) (mvT hZ (own_k hw 90 rfl)) (mvT hZ (own_k hw 89 rfl)) (by decide) (backOf (W := 1) (rmCa0 l Z a0 hw [] a2 cc2 tt2 k02 ll2 vv2 (2 : Int32) x2 y2 G1 fv h0 n0 Z0 hS (hG) hSa hSh hSl hSf (hfr) hO hE2 hFc2 hFv2 hVv2 (hR2) (by decide) (hHx2)) hZ (own_k hw 91 rfl) (own_k hw 7 rfl) (by decide) (by decide)) q97a q97c (g := (mkF m 42 #[.val (.ref a1), .val (.ref a2), .val (.int (2 : Int32)), .val (.int (0 : Int32))] [(.int (0 : Int32)), (.ref a2), (.int (own_rk x1))])) rfl (by rw [hml]; rfl) (Steps.refl _) (argsL := [(.int (0 : Int32))]) (rest := [(.int (own_rk x1))]) (lenOf own_pd_18 rfl) rfl (by show 2 * 0 + _ ≤ _; exact Nat.le_of_eq rfl) (hb hby d10_42) (fun _ _ => ⟨rfl, eh96, (by decide : 0 + 0 ≤ _), (by decide : 0 + 0 ≤ _)⟩)
          dsimp only [Pt.U, Pt.locs, Pt.cells, Pt.slots] at X97 l97 y97 z97 st97 hQ97
          subst l97
          subst y97 z97
          obtain ⟨Nq97, eh97, hv97⟩ := hQ97
          have N97 := Fr.app N96 Nq97
          subst hv97
          obtain ⟨_, _, ⟨T98, L98, k98, n98⟩, -, X98, ⟨Lc98, hQ98, l98, y98, z98⟩, st98⟩ := Jvm.LawKit.callS X97 hx (y := (⟨"com/example/topics_into_queries/topicsintoqueries/CodePoints", "rank", "(C)I"⟩ : MethodName)) hown (mvT hZ (own_k hw 114 rfl)) (mvT hZ (own_k hw 115 rfl)) (mvT hZ (own_k hw 47 rfl)) (mvT hZ (own_k hw 116 rfl)) (by decide) (backOf (W := 1) (rmRk l Z a0 hw [] x2 h0 n0 Z0 ) hZ (own_k hw 116 rfl) (own_k hw 47 rfl) (by decide) (by decide)) (g := (mkF m 45 #[.val (.ref a1), .val (.ref a2), .val (.int (2 : Int32)), .val (.int (0 : Int32))] [(.int x2), (.int (own_rk x1))])) rfl (by rw [hml]; rfl) (argsL := [(.int x2)]) (rest := [(.int (own_rk x1))]) (lenOf own_pd_19 rfl) rfl (by show 2 * 0 + _ ≤ _; exact Nat.le_of_eq rfl) (hb hby d10_45) (fun _ _ => ⟨rfl, eh97, (by decide : 0 + 0 ≤ _), (by decide : 0 + 0 ≤ _)⟩)
          dsimp only [Pt.U, Pt.locs, Pt.cells, Pt.slots] at X98 l98 y98 z98 st98 hQ98
          subst l98
          subst y98 z98
          obtain ⟨Nq98, eh98, hv98⟩ := hQ98
          have N98 := Fr.app N97 Nq98
          subst hv98
          obtain ⟨_, _, ⟨T99, L99, k99, n99⟩, -, X99, ⟨Lc99, hQ99, l99, y99, z99⟩, st99⟩ := Jvm.LawKit.callS X98 hx (y := (⟨"java/lang/Integer", "compare", "(II)I"⟩ : MethodName)) hown (mvT hZ (own_k hw 60 rfl)) (mvT hZ (own_k hw 61 rfl)) (mvT hZ (own_k hw 62 rfl)) (mvT hZ (own_k hw 63 rfl)) (by decide) (backOf (W := 0) (rmIc l Z a0 hw [] (own_rk x1) (own_rk x2) h0 n0 Z0 ) hZ (own_k hw 63 rfl) (own_k hw 62 rfl) (by decide) (by decide)) (g := (mkF m 48 #[.val (.ref a1), .val (.ref a2), .val (.int (2 : Int32)), .val (.int (0 : Int32))] [(.int (own_rk x2)), (.int (own_rk x1))])) rfl (by rw [hml]; rfl) (argsL := [(.int (own_rk x1)), (.int (own_rk x2))]) (rest := []) (lenOf own_pd_17 rfl) rfl (by show 2 * 0 + _ ≤ _; exact Nat.le_of_eq rfl) (hb hby d10_48) (fun _ _ => ⟨rfl, eh98, (by decide : 0 + 0 ≤ _), (by decide : 0 + 0 ≤ _)⟩)
          dsimp only [Pt.U, Pt.locs, Pt.cells, Pt.slots] at X99 l99 y99 z99 st99 hQ99
          subst l99
          subst y99 z99
          obtain ⟨Nq99, eh99, hv99⟩ := hQ99
          have N99 := Fr.app N98 Nq99
          subst hv99
          obtain ⟨fs, hr, hrun, hended, hW, hsame⟩ := X99.leave (v := (some (.int (own_ic (own_rk x1) (own_rk x2))))) (fun h => by rw [Bd.returns] at h; cases h)
          refine ⟨_, _, pre81 _ ?_, hrun, hended, _, _, rfl, ?_, ⟨_, rfl⟩, hW, hsame.mono (by decide) (by decide)⟩
          · show Steps p.tables e below (T80.setTop (mkF m 29 #[.val (.ref a1), .val (.ref a2), .val (.int (2 : Int32)), .val (.int (0 : Int32))] [(.int x2), (.int x1)])) _
            refine XS.icmpNo X80.here hx rfl (hb hby d10_29) rfl (feq hcx82).1 ?_
            show Steps p.tables e below (T80.setTop (mkF m 32 #[.val (.ref a1), .val (.ref a2), .val (.int (2 : Int32)), .val (.int (0 : Int32))] [])) _
            refine XS.aloadN X80.here hx rfl (hb hby d10_32) rfl rfl ?_
            show Steps p.tables e below (T80.setTop (mkF m 33 #[.val (.ref a1), .val (.ref a2), .val (.int (2 : Int32)), .val (.int (0 : Int32))] [(.ref a1)])) _
            refine XS.iloadN X80.here hx rfl (hb hby d10_33) rfl ?_
            show Steps p.tables e below (T80.setTop (mkF m 34 #[.val (.ref a1), .val (.ref a2), .val (.int (2 : Int32)), .val (.int (0 : Int32))] [(.int (0 : Int32)), (.ref a1)])) _
            refine st95.trans ?_
            show Steps p.tables e below (T95.setTop (mkF m 37 #[.val (.ref a1), .val (.ref a2), .val (.int (2 : Int32)), .val (.int (0 : Int32))] [(.int x1)])) _
            refine st96 _ ?_
            show Steps p.tables e below (T96.setTop (mkF m 40 #[.val (.ref a1), .val (.ref a2), .val (.int (2 : Int32)), .val (.int (0 : Int32))] [(.int (own_rk x1))])) _
            refine XS.aloadN X96.here hx rfl (hb hby d10_40) rfl rfl ?_
            show Steps p.tables e below (T96.setTop (mkF m 41 #[.val (.ref a1), .val (.ref a2), .val (.int (2 : Int32)), .val (.int (0 : Int32))] [(.ref a2), (.int (own_rk x1))])) _
            refine XS.iloadN X96.here hx rfl (hb hby d10_41) rfl ?_
            show Steps p.tables e below (T96.setTop (mkF m 42 #[.val (.ref a1), .val (.ref a2), .val (.int (2 : Int32)), .val (.int (0 : Int32))] [(.int (0 : Int32)), (.ref a2), (.int (own_rk x1))])) _
            refine st97.trans ?_
            show Steps p.tables e below (T97.setTop (mkF m 45 #[.val (.ref a1), .val (.ref a2), .val (.int (2 : Int32)), .val (.int (0 : Int32))] [(.int x2), (.int (own_rk x1))])) _
            refine st98 _ ?_
            show Steps p.tables e below (T98.setTop (mkF m 48 #[.val (.ref a1), .val (.ref a2), .val (.int (2 : Int32)), .val (.int (0 : Int32))] [(.int (own_rk x2)), (.int (own_rk x1))])) _
            refine st99 _ ?_
            show Steps p.tables e below (T99.setTop (mkF m 51 #[.val (.ref a1), .val (.ref a2), .val (.int (2 : Int32)), .val (.int (0 : Int32))] [(.int (own_ic (own_rk x1) (own_rk x2)))])) _
            exact retOut X99 hx Bd.returns rfl (Or.inl ⟨rfl, Or.inl rfl, _, rfl⟩) (hb hby d10_51) hr
          · show Qcmp Z a1 a2 cc1 tt1 k01 ll1 vv1 (2 : Int32) x1 y1 cc2 tt2 k02 ll2 vv2 (2 : Int32) x2 y2 G1 fv h0 n0 _ T99.heap _
            rw [eh99]
            exact ⟨N99, rfl, (by unfold own_cmp; rw [if_pos ⟨(by decide : (0 : Int32) < own_mn (2 : Int32) (2 : Int32)), hcx82⟩])⟩
theorem own_yes {n m : Int32} (hn : own_N n) (hm : own_N m) (h : own_mn n m < (1 : Int32)) : own_mn n m < (2 : Int32) := by
  revert h; rcases hn with rfl | rfl | rfl <;> rcases hm with rfl | rfl | rfl <;> decide
theorem own_pd_20 : parseMethodDescriptor "(ICC)Ljava/lang/String;" = some ⟨[.int, .char, .char], some (.object "java/lang/String")⟩ := by decide +kernel
theorem own_pd_21 : parseMethodDescriptor "(Ljava/lang/String;Ljava/lang/String;)I" = some ⟨[(.object "java/lang/String"), (.object "java/lang/String")], some .int⟩ := by decide +kernel
theorem ef_0 (m : MethodId) (p0 : Int32) (p1 : Int32) (p2 : Int32) : entryFrame m #[(.int p0), (.int p1), (.int p2)] maxLocals = mkF m 0 #[.val (.int p0), .val (.int p1), .val (.int p2), .unset, .unset, .unset, .unset, .unset, .unset, .unset, .unset, .unset, .unset, .unset] [] := by first | (simp [entryFrame, mkF, argsToLocals, Value.category, maxLocals]; done) | rfl
def Q0 (Z : State) (p0 : Int32) (p1 : Int32) (p2 : Int32) (G1 : Int32) (fv : Value) (h0 : Heap) (n0 : Nat) (v : Option Value) (h : Heap) (L : List Loc) : Prop := Fr n0 L ∧ v = some (.int (1 : Int32))
set_option maxRecDepth 65536 in
set_option maxHeartbeats 40000000 in
theorem rm0 (l : Launch) (Z : State) (a0 : Array Value) (hw : ∀ d ∈ tables_1, d.before a0 Z = true) (ws : List Jvm.Cond) (p0 : Int32) (p1 : Int32) (p2 : Int32) (G1 : Int32) (fv : Value) (h0 : Heap) (n0 : Nat) (Z0 : n0 ≤ h0.size) (hS : Sta Z Z.heap "java/lang/String" "COMPACT_STRINGS" "Z" (.int G1)) (hG : ¬ (G1 = (0 : Int32))) (hSa : Sta Z Z.heap "java/lang/StringUTF16" "$assertionsDisabled" "Z" (.int (1 : Int32))) (hSh : Sta Z Z.heap "java/lang/StringUTF16" "HI_BYTE_SHIFT" "I" (.int (0 : Int32))) (hSl : Sta Z Z.heap "java/lang/StringUTF16" "LO_BYTE_SHIFT" "I" (.int (8 : Int32))) (hSf : Sta Z Z.heap "jdk/internal/util/Preconditions" "SIOOBE_FORMATTER" "Ljava/util/function/BiFunction;" fv) (hfr : fv.isRef = true) (hO : Old Z n0 h0) :
    MetFree l x (head1 (Jvm.Cond.code x code maxLocals ret :: ws) room_1) (fun a U => a = #[(.int p0), (.int p1), (.int p2)] ∧ Z.Warmed39 U.vm ∧ U.heap = h0 ∧ CHv Z own_EL U.vm h0 ∧ ∀ x ∈ ([] : List Addr), Safe Z own_EL U.vm h0 x) (fun _ _ _ _ _ => True) (fun _ U o U' => ∃ v L, o = .returned v ∧ Q0 Z p0 p1 p2 G1 fv h0 n0 v U'.heap L ∧ CHr Z own_EL U.vm U.heap U'.vm U'.heap ∧ ReturnedEndW U o U' L 32 1152) := by
  refine MetFree.of_bodySF (plainFor_of_name own_pn_1) hisR ?_
  intro p e s m args below meth c s₁ Bd hml0 hP hK
  obtain ⟨rfl, hZ, hh, hCH, hQs⟩ := hP
  have hx := Bd.exec
  have hby := Bd.bytes
  have hml : c.maxLocals = 14 := hml0
  have hown : s.vm.findClass "com/example/topics_into_queries/topicsintoqueries/CodePointsComparePinLaw" = some m.cls := findClass_of_methodNamed Bd.named
  have hnm := (name_of_methodNamed Bd.named Bd.method).1
  have X0 : Stand p l e room_1 (s.setVm s.vm) m #[(.int p0), (.int p1), (.int p2)] below meth c s₁ [] 0 0 := Stand.of_body Bd
  have e0 : s₁.heap = h0 := by rw [← hh, Bd.state]; rfl
  have N0 := Fr.nil n0
  have pre0 : ∀ t, Steps p.tables e below (s₁.setTop (mkF m 0 #[.val (.int p0), .val (.int p1), .val (.int p2), .unset, .unset, .unset, .unset, .unset, .unset, .unset, .unset, .unset, .unset, .unset] [])) t → Steps p.tables e below (s₁.setTop (entryFrame m #[(.int p0), (.int p1), (.int p2)] maxLocals)) t := fun t k => castTop (ef_0 m p0 p1 p2) k
  have hZ0 := hZ
  have hown0 := hown
  have hEL : EW Z a0 own_EL := (EW.cons (own_k hw 35 rfl) (by decide) EW.nil)
  have hwS : ∀ a ∈ Bundle.stringAtoms, a.before a0 Z = true := fun d hd => hw d ((by decide +kernel : ∀ d ∈ Bundle.stringAtoms, d ∈ tables_1) d hd)
  have hS0 : s.Since s.vm h0.size := (State.WarmedH.refl s).since _
  have Y0 : h0.size ≤ h0.size := Nat.le_refl _
  have R0 : CHr Z own_EL s.vm h0 s.vm h0 := CHr.refl hCH
  have pre1 : ∀ t, Steps p.tables e below (s₁.setTop (mkF m 43 #[.val (.int p0), .val (.int p1), .val (.int p2), .val (.int ((p2 &&& (3 : Int32)) % (3 : Int32))), .val (.int ((((p2.toUInt32 >>> ((2 : Int32) &&& 31).toUInt32).toInt32) &&& (3 : Int32)) % (3 : Int32))), .val (.int ((p0 &&& (65535 : Int32)).toUInt32.toUInt16.toUInt32.toInt32)), .val (.int (((p0.toUInt32 >>> ((16 : Int32) &&& 31).toUInt32).toInt32).toUInt32.toUInt16.toUInt32.toInt32)), .val (.int ((p1 &&& (65535 : Int32)).toUInt32.toUInt16.toUInt32.toInt32)), .val (.int (((p1.toUInt32 >>> ((16 : Int32) &&& 31).toUInt32).toInt32).toUInt32.toUInt16.toUInt32.toInt32)), .unset, .unset, .unset, .unset, .unset] [])) t → Steps p.tables e below (s₁.setTop (entryFrame m #[(.int p0), (.int p1), (.int p2)] maxLocals)) t := fun t kt => pre0 t (by
    show Steps p.tables e below (s₁.setTop (mkF m 0 #[.val (.int p0), .val (.int p1), .val (.int p2), .unset, .unset, .unset, .unset, .unset, .unset, .unset, .unset, .unset, .unset, .unset] [])) _
    refine XS.iloadN X0.here hx rfl (hb hby at_0) rfl ?_
    show Steps p.tables e below (s₁.setTop (mkF m 1 #[.val (.int p0), .val (.int p1), .val (.int p2), .unset, .unset, .unset, .unset, .unset, .unset, .unset, .unset, .unset, .unset, .unset] [(.int p2)])) _
    refine XS.iconst X0.here hx rfl (hb hby at_1) ?_
    show Steps p.tables e below (s₁.setTop (mkF m 2 #[.val (.int p0), .val (.int p1), .val (.int p2), .unset, .unset, .unset, .unset, .unset, .unset, .unset, .unset, .unset, .unset, .unset] [(.int (3 : Int32)), (.int p2)])) _
    refine XS.iand X0.here hx rfl (hb hby at_2) rfl ?_
    show Steps p.tables e below (s₁.setTop (mkF m 3 #[.val (.int p0), .val (.int p1), .val (.int p2), .unset, .unset, .unset, .unset, .unset, .unset, .unset, .unset, .unset, .unset, .unset] [(.int (p2 &&& (3 : Int32)))])) _
    refine XS.iconst X0.here hx rfl (hb hby at_3) ?_
    show Steps p.tables e below (s₁.setTop (mkF m 4 #[.val (.int p0), .val (.int p1), .val (.int p2), .unset, .unset, .unset, .unset, .unset, .unset, .unset, .unset, .unset, .unset, .unset] [(.int (3 : Int32)), (.int (p2 &&& (3 : Int32)))])) _
    refine iremM X0 hx rfl (hb hby at_4) rfl (by decide) ?_
    show Steps p.tables e below (s₁.setTop (mkF m 5 #[.val (.int p0), .val (.int p1), .val (.int p2), .unset, .unset, .unset, .unset, .unset, .unset, .unset, .unset, .unset, .unset, .unset] [(.int ((p2 &&& (3 : Int32)) % (3 : Int32)))])) _
    refine XS.istoreN X0.here hx rfl (hb hby at_5) rfl (l' := #[.val (.int p0), .val (.int p1), .val (.int p2), .val (.int ((p2 &&& (3 : Int32)) % (3 : Int32))), .unset, .unset, .unset, .unset, .unset, .unset, .unset, .unset, .unset, .unset]) rfl ?_
    show Steps p.tables e below (s₁.setTop (mkF m 6 #[.val (.int p0), .val (.int p1), .val (.int p2), .val (.int ((p2 &&& (3 : Int32)) % (3 : Int32))), .unset, .unset, .unset, .unset, .unset, .unset, .unset, .unset, .unset, .unset] [])) _
    refine XS.iloadN X0.here hx rfl (hb hby at_6) rfl ?_
    show Steps p.tables e below (s₁.setTop (mkF m 7 #[.val (.int p0), .val (.int p1), .val (.int p2), .val (.int ((p2 &&& (3 : Int32)) % (3 : Int32))), .unset, .unset, .unset, .unset, .unset, .unset, .unset, .unset, .unset, .unset] [(.int p2)])) _
    refine XS.iconst X0.here hx rfl (hb hby at_7) ?_
    show Steps p.tables e below (s₁.setTop (mkF m 8 #[.val (.int p0), .val (.int p1), .val (.int p2), .val (.int ((p2 &&& (3 : Int32)) % (3 : Int32))), .unset, .unset, .unset, .unset, .unset, .unset, .unset, .unset, .unset, .unset] [(.int (2 : Int32)), (.int p2)])) _
    refine XS.iushr X0.here hx rfl (hb hby at_8) rfl ?_
    show Steps p.tables e below (s₁.setTop (mkF m 9 #[.val (.int p0), .val (.int p1), .val (.int p2), .val (.int ((p2 &&& (3 : Int32)) % (3 : Int32))), .unset, .unset, .unset, .unset, .unset, .unset, .unset, .unset, .unset, .unset] [(.int ((p2.toUInt32 >>> ((2 : Int32) &&& 31).toUInt32).toInt32))])) _
    refine XS.iconst X0.here hx rfl (hb hby at_9) ?_
    show Steps p.tables e below (s₁.setTop (mkF m 10 #[.val (.int p0), .val (.int p1), .val (.int p2), .val (.int ((p2 &&& (3 : Int32)) % (3 : Int32))), .unset, .unset, .unset, .unset, .unset, .unset, .unset, .unset, .unset, .unset] [(.int (3 : Int32)), (.int ((p2.toUInt32 >>> ((2 : Int32) &&& 31).toUInt32).toInt32))])) _
    refine XS.iand X0.here hx rfl (hb hby at_10) rfl ?_
    show Steps p.tables e below (s₁.setTop (mkF m 11 #[.val (.int p0), .val (.int p1), .val (.int p2), .val (.int ((p2 &&& (3 : Int32)) % (3 : Int32))), .unset, .unset, .unset, .unset, .unset, .unset, .unset, .unset, .unset, .unset] [(.int (((p2.toUInt32 >>> ((2 : Int32) &&& 31).toUInt32).toInt32) &&& (3 : Int32)))])) _
    refine XS.iconst X0.here hx rfl (hb hby at_11) ?_
    show Steps p.tables e below (s₁.setTop (mkF m 12 #[.val (.int p0), .val (.int p1), .val (.int p2), .val (.int ((p2 &&& (3 : Int32)) % (3 : Int32))), .unset, .unset, .unset, .unset, .unset, .unset, .unset, .unset, .unset, .unset] [(.int (3 : Int32)), (.int (((p2.toUInt32 >>> ((2 : Int32) &&& 31).toUInt32).toInt32) &&& (3 : Int32)))])) _
    refine iremM X0 hx rfl (hb hby at_12) rfl (by decide) ?_
    show Steps p.tables e below (s₁.setTop (mkF m 13 #[.val (.int p0), .val (.int p1), .val (.int p2), .val (.int ((p2 &&& (3 : Int32)) % (3 : Int32))), .unset, .unset, .unset, .unset, .unset, .unset, .unset, .unset, .unset, .unset] [(.int ((((p2.toUInt32 >>> ((2 : Int32) &&& 31).toUInt32).toInt32) &&& (3 : Int32)) % (3 : Int32)))])) _
    refine XS.istore X0.here hx rfl (hb hby at_13) rfl (l' := #[.val (.int p0), .val (.int p1), .val (.int p2), .val (.int ((p2 &&& (3 : Int32)) % (3 : Int32))), .val (.int ((((p2.toUInt32 >>> ((2 : Int32) &&& 31).toUInt32).toInt32) &&& (3 : Int32)) % (3 : Int32))), .unset, .unset, .unset, .unset, .unset, .unset, .unset, .unset, .unset]) rfl ?_
    show Steps p.tables e below (s₁.setTop (mkF m 15 #[.val (.int p0), .val (.int p1), .val (.int p2), .val (.int ((p2 &&& (3 : Int32)) % (3 : Int32))), .val (.int ((((p2.toUInt32 >>> ((2 : Int32) &&& 31).toUInt32).toInt32) &&& (3 : Int32)) % (3 : Int32))), .unset, .unset, .unset, .unset, .unset, .unset, .unset, .unset, .unset] [])) _
    refine XS.iloadN X0.here hx rfl (hb hby at_15) rfl ?_
    show Steps p.tables e below (s₁.setTop (mkF m 16 #[.val (.int p0), .val (.int p1), .val (.int p2), .val (.int ((p2 &&& (3 : Int32)) % (3 : Int32))), .val (.int ((((p2.toUInt32 >>> ((2 : Int32) &&& 31).toUInt32).toInt32) &&& (3 : Int32)) % (3 : Int32))), .unset, .unset, .unset, .unset, .unset, .unset, .unset, .unset, .unset] [(.int p0)])) _
    refine X0.ldcInt hx hown0 (mvT hZ0 (own_k hw 0 rfl)) (g := (mkF m 16 #[.val (.int p0), .val (.int p1), .val (.int p2), .val (.int ((p2 &&& (3 : Int32)) % (3 : Int32))), .val (.int ((((p2.toUInt32 >>> ((2 : Int32) &&& 31).toUInt32).toInt32) &&& (3 : Int32)) % (3 : Int32))), .unset, .unset, .unset, .unset, .unset, .unset, .unset, .unset, .unset] [(.int p0)])) rfl (hb hby at_16) _ ?_
    show Steps p.tables e below (s₁.setTop (mkF m 18 #[.val (.int p0), .val (.int p1), .val (.int p2), .val (.int ((p2 &&& (3 : Int32)) % (3 : Int32))), .val (.int ((((p2.toUInt32 >>> ((2 : Int32) &&& 31).toUInt32).toInt32) &&& (3 : Int32)) % (3 : Int32))), .unset, .unset, .unset, .unset, .unset, .unset, .unset, .unset, .unset] [(.int (65535 : Int32)), (.int p0)])) _
    refine XS.iand X0.here hx rfl (hb hby at_18) rfl ?_
    show Steps p.tables e below (s₁.setTop (mkF m 19 #[.val (.int p0), .val (.int p1), .val (.int p2), .val (.int ((p2 &&& (3 : Int32)) % (3 : Int32))), .val (.int ((((p2.toUInt32 >>> ((2 : Int32) &&& 31).toUInt32).toInt32) &&& (3 : Int32)) % (3 : Int32))), .unset, .unset, .unset, .unset, .unset, .unset, .unset, .unset, .unset] [(.int (p0 &&& (65535 : Int32)))])) _
    refine XS.i2c X0.here hx rfl (hb hby at_19) rfl ?_
    show Steps p.tables e below (s₁.setTop (mkF m 20 #[.val (.int p0), .val (.int p1), .val (.int p2), .val (.int ((p2 &&& (3 : Int32)) % (3 : Int32))), .val (.int ((((p2.toUInt32 >>> ((2 : Int32) &&& 31).toUInt32).toInt32) &&& (3 : Int32)) % (3 : Int32))), .unset, .unset, .unset, .unset, .unset, .unset, .unset, .unset, .unset] [(.int ((p0 &&& (65535 : Int32)).toUInt32.toUInt16.toUInt32.toInt32))])) _
    refine XS.istore X0.here hx rfl (hb hby at_20) rfl (l' := #[.val (.int p0), .val (.int p1), .val (.int p2), .val (.int ((p2 &&& (3 : Int32)) % (3 : Int32))), .val (.int ((((p2.toUInt32 >>> ((2 : Int32) &&& 31).toUInt32).toInt32) &&& (3 : Int32)) % (3 : Int32))), .val (.int ((p0 &&& (65535 : Int32)).toUInt32.toUInt16.toUInt32.toInt32)), .unset, .unset, .unset, .unset, .unset, .unset, .unset, .unset]) rfl ?_
    show Steps p.tables e below (s₁.setTop (mkF m 22 #[.val (.int p0), .val (.int p1), .val (.int p2), .val (.int ((p2 &&& (3 : Int32)) % (3 : Int32))), .val (.int ((((p2.toUInt32 >>> ((2 : Int32) &&& 31).toUInt32).toInt32) &&& (3 : Int32)) % (3 : Int32))), .val (.int ((p0 &&& (65535 : Int32)).toUInt32.toUInt16.toUInt32.toInt32)), .unset, .unset, .unset, .unset, .unset, .unset, .unset, .unset] [])) _
    refine XS.iloadN X0.here hx rfl (hb hby at_22) rfl ?_
    show Steps p.tables e below (s₁.setTop (mkF m 23 #[.val (.int p0), .val (.int p1), .val (.int p2), .val (.int ((p2 &&& (3 : Int32)) % (3 : Int32))), .val (.int ((((p2.toUInt32 >>> ((2 : Int32) &&& 31).toUInt32).toInt32) &&& (3 : Int32)) % (3 : Int32))), .val (.int ((p0 &&& (65535 : Int32)).toUInt32.toUInt16.toUInt32.toInt32)), .unset, .unset, .unset, .unset, .unset, .unset, .unset, .unset] [(.int p0)])) _
    refine XS.bipush X0.here hx rfl (hb hby at_23) ?_
    show Steps p.tables e below (s₁.setTop (mkF m 25 #[.val (.int p0), .val (.int p1), .val (.int p2), .val (.int ((p2 &&& (3 : Int32)) % (3 : Int32))), .val (.int ((((p2.toUInt32 >>> ((2 : Int32) &&& 31).toUInt32).toInt32) &&& (3 : Int32)) % (3 : Int32))), .val (.int ((p0 &&& (65535 : Int32)).toUInt32.toUInt16.toUInt32.toInt32)), .unset, .unset, .unset, .unset, .unset, .unset, .unset, .unset] [(.int (16 : Int32)), (.int p0)])) _
    refine XS.iushr X0.here hx rfl (hb hby at_25) rfl ?_
    show Steps p.tables e below (s₁.setTop (mkF m 26 #[.val (.int p0), .val (.int p1), .val (.int p2), .val (.int ((p2 &&& (3 : Int32)) % (3 : Int32))), .val (.int ((((p2.toUInt32 >>> ((2 : Int32) &&& 31).toUInt32).toInt32) &&& (3 : Int32)) % (3 : Int32))), .val (.int ((p0 &&& (65535 : Int32)).toUInt32.toUInt16.toUInt32.toInt32)), .unset, .unset, .unset, .unset, .unset, .unset, .unset, .unset] [(.int ((p0.toUInt32 >>> ((16 : Int32) &&& 31).toUInt32).toInt32))])) _
    refine XS.i2c X0.here hx rfl (hb hby at_26) rfl ?_
    show Steps p.tables e below (s₁.setTop (mkF m 27 #[.val (.int p0), .val (.int p1), .val (.int p2), .val (.int ((p2 &&& (3 : Int32)) % (3 : Int32))), .val (.int ((((p2.toUInt32 >>> ((2 : Int32) &&& 31).toUInt32).toInt32) &&& (3 : Int32)) % (3 : Int32))), .val (.int ((p0 &&& (65535 : Int32)).toUInt32.toUInt16.toUInt32.toInt32)), .unset, .unset, .unset, .unset, .unset, .unset, .unset, .unset] [(.int (((p0.toUInt32 >>> ((16 : Int32) &&& 31).toUInt32).toInt32).toUInt32.toUInt16.toUInt32.toInt32))])) _
    refine XS.istore X0.here hx rfl (hb hby at_27) rfl (l' := #[.val (.int p0), .val (.int p1), .val (.int p2), .val (.int ((p2 &&& (3 : Int32)) % (3 : Int32))), .val (.int ((((p2.toUInt32 >>> ((2 : Int32) &&& 31).toUInt32).toInt32) &&& (3 : Int32)) % (3 : Int32))), .val (.int ((p0 &&& (65535 : Int32)).toUInt32.toUInt16.toUInt32.toInt32)), .val (.int (((p0.toUInt32 >>> ((16 : Int32) &&& 31).toUInt32).toInt32).toUInt32.toUInt16.toUInt32.toInt32)), .unset, .unset, .unset, .unset, .unset, .unset, .unset]) rfl ?_
    show Steps p.tables e below (s₁.setTop (mkF m 29 #[.val (.int p0), .val (.int p1), .val (.int p2), .val (.int ((p2 &&& (3 : Int32)) % (3 : Int32))), .val (.int ((((p2.toUInt32 >>> ((2 : Int32) &&& 31).toUInt32).toInt32) &&& (3 : Int32)) % (3 : Int32))), .val (.int ((p0 &&& (65535 : Int32)).toUInt32.toUInt16.toUInt32.toInt32)), .val (.int (((p0.toUInt32 >>> ((16 : Int32) &&& 31).toUInt32).toInt32).toUInt32.toUInt16.toUInt32.toInt32)), .unset, .unset, .unset, .unset, .unset, .unset, .unset] [])) _
    refine XS.iloadN X0.here hx rfl (hb hby at_29) rfl ?_
    show Steps p.tables e below (s₁.setTop (mkF m 30 #[.val (.int p0), .val (.int p1), .val (.int p2), .val (.int ((p2 &&& (3 : Int32)) % (3 : Int32))), .val (.int ((((p2.toUInt32 >>> ((2 : Int32) &&& 31).toUInt32).toInt32) &&& (3 : Int32)) % (3 : Int32))), .val (.int ((p0 &&& (65535 : Int32)).toUInt32.toUInt16.toUInt32.toInt32)), .val (.int (((p0.toUInt32 >>> ((16 : Int32) &&& 31).toUInt32).toInt32).toUInt32.toUInt16.toUInt32.toInt32)), .unset, .unset, .unset, .unset, .unset, .unset, .unset] [(.int p1)])) _
    refine X0.ldcInt hx hown0 (mvT hZ0 (own_k hw 0 rfl)) (g := (mkF m 30 #[.val (.int p0), .val (.int p1), .val (.int p2), .val (.int ((p2 &&& (3 : Int32)) % (3 : Int32))), .val (.int ((((p2.toUInt32 >>> ((2 : Int32) &&& 31).toUInt32).toInt32) &&& (3 : Int32)) % (3 : Int32))), .val (.int ((p0 &&& (65535 : Int32)).toUInt32.toUInt16.toUInt32.toInt32)), .val (.int (((p0.toUInt32 >>> ((16 : Int32) &&& 31).toUInt32).toInt32).toUInt32.toUInt16.toUInt32.toInt32)), .unset, .unset, .unset, .unset, .unset, .unset, .unset] [(.int p1)])) rfl (hb hby at_30) _ ?_
    show Steps p.tables e below (s₁.setTop (mkF m 32 #[.val (.int p0), .val (.int p1), .val (.int p2), .val (.int ((p2 &&& (3 : Int32)) % (3 : Int32))), .val (.int ((((p2.toUInt32 >>> ((2 : Int32) &&& 31).toUInt32).toInt32) &&& (3 : Int32)) % (3 : Int32))), .val (.int ((p0 &&& (65535 : Int32)).toUInt32.toUInt16.toUInt32.toInt32)), .val (.int (((p0.toUInt32 >>> ((16 : Int32) &&& 31).toUInt32).toInt32).toUInt32.toUInt16.toUInt32.toInt32)), .unset, .unset, .unset, .unset, .unset, .unset, .unset] [(.int (65535 : Int32)), (.int p1)])) _
    refine XS.iand X0.here hx rfl (hb hby at_32) rfl ?_
    show Steps p.tables e below (s₁.setTop (mkF m 33 #[.val (.int p0), .val (.int p1), .val (.int p2), .val (.int ((p2 &&& (3 : Int32)) % (3 : Int32))), .val (.int ((((p2.toUInt32 >>> ((2 : Int32) &&& 31).toUInt32).toInt32) &&& (3 : Int32)) % (3 : Int32))), .val (.int ((p0 &&& (65535 : Int32)).toUInt32.toUInt16.toUInt32.toInt32)), .val (.int (((p0.toUInt32 >>> ((16 : Int32) &&& 31).toUInt32).toInt32).toUInt32.toUInt16.toUInt32.toInt32)), .unset, .unset, .unset, .unset, .unset, .unset, .unset] [(.int (p1 &&& (65535 : Int32)))])) _
    refine XS.i2c X0.here hx rfl (hb hby at_33) rfl ?_
    show Steps p.tables e below (s₁.setTop (mkF m 34 #[.val (.int p0), .val (.int p1), .val (.int p2), .val (.int ((p2 &&& (3 : Int32)) % (3 : Int32))), .val (.int ((((p2.toUInt32 >>> ((2 : Int32) &&& 31).toUInt32).toInt32) &&& (3 : Int32)) % (3 : Int32))), .val (.int ((p0 &&& (65535 : Int32)).toUInt32.toUInt16.toUInt32.toInt32)), .val (.int (((p0.toUInt32 >>> ((16 : Int32) &&& 31).toUInt32).toInt32).toUInt32.toUInt16.toUInt32.toInt32)), .unset, .unset, .unset, .unset, .unset, .unset, .unset] [(.int ((p1 &&& (65535 : Int32)).toUInt32.toUInt16.toUInt32.toInt32))])) _
    refine XS.istore X0.here hx rfl (hb hby at_34) rfl (l' := #[.val (.int p0), .val (.int p1), .val (.int p2), .val (.int ((p2 &&& (3 : Int32)) % (3 : Int32))), .val (.int ((((p2.toUInt32 >>> ((2 : Int32) &&& 31).toUInt32).toInt32) &&& (3 : Int32)) % (3 : Int32))), .val (.int ((p0 &&& (65535 : Int32)).toUInt32.toUInt16.toUInt32.toInt32)), .val (.int (((p0.toUInt32 >>> ((16 : Int32) &&& 31).toUInt32).toInt32).toUInt32.toUInt16.toUInt32.toInt32)), .val (.int ((p1 &&& (65535 : Int32)).toUInt32.toUInt16.toUInt32.toInt32)), .unset, .unset, .unset, .unset, .unset, .unset]) rfl ?_
    show Steps p.tables e below (s₁.setTop (mkF m 36 #[.val (.int p0), .val (.int p1), .val (.int p2), .val (.int ((p2 &&& (3 : Int32)) % (3 : Int32))), .val (.int ((((p2.toUInt32 >>> ((2 : Int32) &&& 31).toUInt32).toInt32) &&& (3 : Int32)) % (3 : Int32))), .val (.int ((p0 &&& (65535 : Int32)).toUInt32.toUInt16.toUInt32.toInt32)), .val (.int (((p0.toUInt32 >>> ((16 : Int32) &&& 31).toUInt32).toInt32).toUInt32.toUInt16.toUInt32.toInt32)), .val (.int ((p1 &&& (65535 : Int32)).toUInt32.toUInt16.toUInt32.toInt32)), .unset, .unset, .unset, .unset, .unset, .unset] [])) _
    refine XS.iloadN X0.here hx rfl (hb hby at_36) rfl ?_
    show Steps p.tables e below (s₁.setTop (mkF m 37 #[.val (.int p0), .val (.int p1), .val (.int p2), .val (.int ((p2 &&& (3 : Int32)) % (3 : Int32))), .val (.int ((((p2.toUInt32 >>> ((2 : Int32) &&& 31).toUInt32).toInt32) &&& (3 : Int32)) % (3 : Int32))), .val (.int ((p0 &&& (65535 : Int32)).toUInt32.toUInt16.toUInt32.toInt32)), .val (.int (((p0.toUInt32 >>> ((16 : Int32) &&& 31).toUInt32).toInt32).toUInt32.toUInt16.toUInt32.toInt32)), .val (.int ((p1 &&& (65535 : Int32)).toUInt32.toUInt16.toUInt32.toInt32)), .unset, .unset, .unset, .unset, .unset, .unset] [(.int p1)])) _
    refine XS.bipush X0.here hx rfl (hb hby at_37) ?_
    show Steps p.tables e below (s₁.setTop (mkF m 39 #[.val (.int p0), .val (.int p1), .val (.int p2), .val (.int ((p2 &&& (3 : Int32)) % (3 : Int32))), .val (.int ((((p2.toUInt32 >>> ((2 : Int32) &&& 31).toUInt32).toInt32) &&& (3 : Int32)) % (3 : Int32))), .val (.int ((p0 &&& (65535 : Int32)).toUInt32.toUInt16.toUInt32.toInt32)), .val (.int (((p0.toUInt32 >>> ((16 : Int32) &&& 31).toUInt32).toInt32).toUInt32.toUInt16.toUInt32.toInt32)), .val (.int ((p1 &&& (65535 : Int32)).toUInt32.toUInt16.toUInt32.toInt32)), .unset, .unset, .unset, .unset, .unset, .unset] [(.int (16 : Int32)), (.int p1)])) _
    refine XS.iushr X0.here hx rfl (hb hby at_39) rfl ?_
    show Steps p.tables e below (s₁.setTop (mkF m 40 #[.val (.int p0), .val (.int p1), .val (.int p2), .val (.int ((p2 &&& (3 : Int32)) % (3 : Int32))), .val (.int ((((p2.toUInt32 >>> ((2 : Int32) &&& 31).toUInt32).toInt32) &&& (3 : Int32)) % (3 : Int32))), .val (.int ((p0 &&& (65535 : Int32)).toUInt32.toUInt16.toUInt32.toInt32)), .val (.int (((p0.toUInt32 >>> ((16 : Int32) &&& 31).toUInt32).toInt32).toUInt32.toUInt16.toUInt32.toInt32)), .val (.int ((p1 &&& (65535 : Int32)).toUInt32.toUInt16.toUInt32.toInt32)), .unset, .unset, .unset, .unset, .unset, .unset] [(.int ((p1.toUInt32 >>> ((16 : Int32) &&& 31).toUInt32).toInt32))])) _
    refine XS.i2c X0.here hx rfl (hb hby at_40) rfl ?_
    show Steps p.tables e below (s₁.setTop (mkF m 41 #[.val (.int p0), .val (.int p1), .val (.int p2), .val (.int ((p2 &&& (3 : Int32)) % (3 : Int32))), .val (.int ((((p2.toUInt32 >>> ((2 : Int32) &&& 31).toUInt32).toInt32) &&& (3 : Int32)) % (3 : Int32))), .val (.int ((p0 &&& (65535 : Int32)).toUInt32.toUInt16.toUInt32.toInt32)), .val (.int (((p0.toUInt32 >>> ((16 : Int32) &&& 31).toUInt32).toInt32).toUInt32.toUInt16.toUInt32.toInt32)), .val (.int ((p1 &&& (65535 : Int32)).toUInt32.toUInt16.toUInt32.toInt32)), .unset, .unset, .unset, .unset, .unset, .unset] [(.int (((p1.toUInt32 >>> ((16 : Int32) &&& 31).toUInt32).toInt32).toUInt32.toUInt16.toUInt32.toInt32))])) _
    refine XS.istore X0.here hx rfl (hb hby at_41) rfl (l' := #[.val (.int p0), .val (.int p1), .val (.int p2), .val (.int ((p2 &&& (3 : Int32)) % (3 : Int32))), .val (.int ((((p2.toUInt32 >>> ((2 : Int32) &&& 31).toUInt32).toInt32) &&& (3 : Int32)) % (3 : Int32))), .val (.int ((p0 &&& (65535 : Int32)).toUInt32.toUInt16.toUInt32.toInt32)), .val (.int (((p0.toUInt32 >>> ((16 : Int32) &&& 31).toUInt32).toInt32).toUInt32.toUInt16.toUInt32.toInt32)), .val (.int ((p1 &&& (65535 : Int32)).toUInt32.toUInt16.toUInt32.toInt32)), .val (.int (((p1.toUInt32 >>> ((16 : Int32) &&& 31).toUInt32).toInt32).toUInt32.toUInt16.toUInt32.toInt32)), .unset, .unset, .unset, .unset, .unset]) rfl ?_
    exact kt)
  refine cps (A := ∃ (n1 : Int32) (n2 : Int32) (x1 : Int32) (y1 : Int32) (z2 : Int32) (w2 : Int32), (own_N n1 ∧ own_N n2 ∧ own_H x1 ∧ own_H y1 ∧ own_H z2 ∧ own_H w2) ∧ ∀ t, Steps p.tables e below (s₁.setTop (mkF m 43 #[.val (.int p0), .val (.int p1), .val (.int p2), .val (.int n1), .val (.int n2), .val (.int x1), .val (.int y1), .val (.int z2), .val (.int w2), .unset, .unset, .unset, .unset, .unset] [])) t → Steps p.tables e below (s₁.setTop (entryFrame m #[(.int p0), (.int p1), (.int p2)] maxLocals)) t) (fun kj2 => ?_) ?_
  · skip
    exact kj2 ⟨((p2 &&& (3 : Int32)) % (3 : Int32)), ((((p2.toUInt32 >>> ((2 : Int32) &&& 31).toUInt32).toInt32) &&& (3 : Int32)) % (3 : Int32)), ((p0 &&& (65535 : Int32)).toUInt32.toUInt16.toUInt32.toInt32), (((p0.toUInt32 >>> ((16 : Int32) &&& 31).toUInt32).toInt32).toUInt32.toUInt16.toUInt32.toInt32), ((p1 &&& (65535 : Int32)).toUInt32.toUInt16.toUInt32.toInt32), (((p1.toUInt32 >>> ((16 : Int32) &&& 31).toUInt32).toInt32).toUInt32.toUInt16.toUInt32.toInt32), ⟨own_mod3 _, own_mod3 _, own_i2c _, own_i2c _, own_i2c _, own_i2c _⟩, pre1⟩
  · rintro ⟨n1, n2, x1, y1, z2, w2, hj_n1, preJ2⟩
    refine cps (A := ∃ (x2 : Int32) (y2 : Int32), (own_H x2 ∧ own_H y2) ∧ ∀ t, Steps p.tables e below (s₁.setTop (mkF m 67 #[.val (.int p0), .val (.int p1), .val (.int p2), .val (.int n1), .val (.int n2), .val (.int x1), .val (.int y1), .val (.int x2), .val (.int y2), .unset, .unset, .unset, .unset, .unset] [])) t → Steps p.tables e below (s₁.setTop (entryFrame m #[(.int p0), (.int p1), (.int p2)] maxLocals)) t) (fun kj3 => ?_) ?_
    · skip
      have pre4 : ∀ t, Steps p.tables e below (s₁.setTop (mkF m 48 #[.val (.int p0), .val (.int p1), .val (.int p2), .val (.int n1), .val (.int n2), .val (.int x1), .val (.int y1), .val (.int z2), .val (.int w2), .unset, .unset, .unset, .unset, .unset] [(.int (((p2.toUInt32 >>> ((4 : Int32) &&& 31).toUInt32).toInt32) &&& (1 : Int32)))])) t → Steps p.tables e below (s₁.setTop (entryFrame m #[(.int p0), (.int p1), (.int p2)] maxLocals)) t := fun t kt => preJ2 t (by
        show Steps p.tables e below (s₁.setTop (mkF m 43 #[.val (.int p0), .val (.int p1), .val (.int p2), .val (.int n1), .val (.int n2), .val (.int x1), .val (.int y1), .val (.int z2), .val (.int w2), .unset, .unset, .unset, .unset, .unset] [])) _
        refine XS.iloadN X0.here hx rfl (hb hby at_43) rfl ?_
        show Steps p.tables e below (s₁.setTop (mkF m 44 #[.val (.int p0), .val (.int p1), .val (.int p2), .val (.int n1), .val (.int n2), .val (.int x1), .val (.int y1), .val (.int z2), .val (.int w2), .unset, .unset, .unset, .unset, .unset] [(.int p2)])) _
        refine XS.iconst X0.here hx rfl (hb hby at_44) ?_
        show Steps p.tables e below (s₁.setTop (mkF m 45 #[.val (.int p0), .val (.int p1), .val (.int p2), .val (.int n1), .val (.int n2), .val (.int x1), .val (.int y1), .val (.int z2), .val (.int w2), .unset, .unset, .unset, .unset, .unset] [(.int (4 : Int32)), (.int p2)])) _
        refine XS.iushr X0.here hx rfl (hb hby at_45) rfl ?_
        show Steps p.tables e below (s₁.setTop (mkF m 46 #[.val (.int p0), .val (.int p1), .val (.int p2), .val (.int n1), .val (.int n2), .val (.int x1), .val (.int y1), .val (.int z2), .val (.int w2), .unset, .unset, .unset, .unset, .unset] [(.int ((p2.toUInt32 >>> ((4 : Int32) &&& 31).toUInt32).toInt32))])) _
        refine XS.iconst X0.here hx rfl (hb hby at_46) ?_
        show Steps p.tables e below (s₁.setTop (mkF m 47 #[.val (.int p0), .val (.int p1), .val (.int p2), .val (.int n1), .val (.int n2), .val (.int x1), .val (.int y1), .val (.int z2), .val (.int w2), .unset, .unset, .unset, .unset, .unset] [(.int (1 : Int32)), (.int ((p2.toUInt32 >>> ((4 : Int32) &&& 31).toUInt32).toInt32))])) _
        refine XS.iand X0.here hx rfl (hb hby at_47) rfl ?_
        exact kt)
      by_cases hcx5 : (((p2.toUInt32 >>> ((4 : Int32) &&& 31).toUInt32).toInt32) &&& (1 : Int32)) = (0 : Int32)
      · skip
        have pre6 : ∀ t, Steps p.tables e below (s₁.setTop (mkF m 60 #[.val (.int p0), .val (.int p1), .val (.int p2), .val (.int n1), .val (.int n2), .val (.int x1), .val (.int y1), .val (.int z2), .val (.int w2), .unset, .unset, .unset, .unset, .unset] [(.int (((p2.toUInt32 >>> ((5 : Int32) &&& 31).toUInt32).toInt32) &&& (1 : Int32)))])) t → Steps p.tables e below (s₁.setTop (entryFrame m #[(.int p0), (.int p1), (.int p2)] maxLocals)) t := fun t kt => pre4 t (by
          show Steps p.tables e below (s₁.setTop (mkF m 48 #[.val (.int p0), .val (.int p1), .val (.int p2), .val (.int n1), .val (.int n2), .val (.int x1), .val (.int y1), .val (.int z2), .val (.int w2), .unset, .unset, .unset, .unset, .unset] [(.int (((p2.toUInt32 >>> ((4 : Int32) &&& 31).toUInt32).toInt32) &&& (1 : Int32)))])) _
          refine XS.ifYes X0.here hx rfl (pc0 := 48) (pc' := 55) rfl (hb hby at_48) rfl ((if0 _ _).trans (teq hcx5).1) (by decide) (by decide) ?_
          show Steps p.tables e below (s₁.setTop (mkF m 55 #[.val (.int p0), .val (.int p1), .val (.int p2), .val (.int n1), .val (.int n2), .val (.int x1), .val (.int y1), .val (.int z2), .val (.int w2), .unset, .unset, .unset, .unset, .unset] [])) _
          refine XS.iloadN X0.here hx rfl (hb hby at_55) rfl ?_
          show Steps p.tables e below (s₁.setTop (mkF m 56 #[.val (.int p0), .val (.int p1), .val (.int p2), .val (.int n1), .val (.int n2), .val (.int x1), .val (.int y1), .val (.int z2), .val (.int w2), .unset, .unset, .unset, .unset, .unset] [(.int p2)])) _
          refine XS.iconst X0.here hx rfl (hb hby at_56) ?_
          show Steps p.tables e below (s₁.setTop (mkF m 57 #[.val (.int p0), .val (.int p1), .val (.int p2), .val (.int n1), .val (.int n2), .val (.int x1), .val (.int y1), .val (.int z2), .val (.int w2), .unset, .unset, .unset, .unset, .unset] [(.int (5 : Int32)), (.int p2)])) _
          refine XS.iushr X0.here hx rfl (hb hby at_57) rfl ?_
          show Steps p.tables e below (s₁.setTop (mkF m 58 #[.val (.int p0), .val (.int p1), .val (.int p2), .val (.int n1), .val (.int n2), .val (.int x1), .val (.int y1), .val (.int z2), .val (.int w2), .unset, .unset, .unset, .unset, .unset] [(.int ((p2.toUInt32 >>> ((5 : Int32) &&& 31).toUInt32).toInt32))])) _
          refine XS.iconst X0.here hx rfl (hb hby at_58) ?_
          show Steps p.tables e below (s₁.setTop (mkF m 59 #[.val (.int p0), .val (.int p1), .val (.int p2), .val (.int n1), .val (.int n2), .val (.int x1), .val (.int y1), .val (.int z2), .val (.int w2), .unset, .unset, .unset, .unset, .unset] [(.int (1 : Int32)), (.int ((p2.toUInt32 >>> ((5 : Int32) &&& 31).toUInt32).toInt32))])) _
          refine XS.iand X0.here hx rfl (hb hby at_59) rfl ?_
          exact kt)
        by_cases hcx7 : (((p2.toUInt32 >>> ((5 : Int32) &&& 31).toUInt32).toInt32) &&& (1 : Int32)) = (0 : Int32)
        · skip
          have pre8 : ∀ t, Steps p.tables e below (s₁.setTop (mkF m 67 #[.val (.int p0), .val (.int p1), .val (.int p2), .val (.int n1), .val (.int n2), .val (.int x1), .val (.int y1), .val (.int z2), .val (.int w2), .unset, .unset, .unset, .unset, .unset] [])) t → Steps p.tables e below (s₁.setTop (entryFrame m #[(.int p0), (.int p1), (.int p2)] maxLocals)) t := fun t kt => pre6 t (by
            show Steps p.tables e below (s₁.setTop (mkF m 60 #[.val (.int p0), .val (.int p1), .val (.int p2), .val (.int n1), .val (.int n2), .val (.int x1), .val (.int y1), .val (.int z2), .val (.int w2), .unset, .unset, .unset, .unset, .unset] [(.int (((p2.toUInt32 >>> ((5 : Int32) &&& 31).toUInt32).toInt32) &&& (1 : Int32)))])) _
            refine XS.ifYes X0.here hx rfl (pc0 := 60) (pc' := 67) rfl (hb hby at_60) rfl ((if0 _ _).trans (teq hcx7).1) (by decide) (by decide) ?_
            exact kt)
          exact kj3 ⟨z2, w2, ⟨hj_n1.2.2.2.2.1, hj_n1.2.2.2.2.2⟩, pre8⟩
        · skip
          have pre9 : ∀ t, Steps p.tables e below (s₁.setTop (mkF m 67 #[.val (.int p0), .val (.int p1), .val (.int p2), .val (.int n1), .val (.int n2), .val (.int x1), .val (.int y1), .val (.int z2), .val (.int y1), .unset, .unset, .unset, .unset, .unset] [])) t → Steps p.tables e below (s₁.setTop (entryFrame m #[(.int p0), (.int p1), (.int p2)] maxLocals)) t := fun t kt => pre6 t (by
            show Steps p.tables e below (s₁.setTop (mkF m 60 #[.val (.int p0), .val (.int p1), .val (.int p2), .val (.int n1), .val (.int n2), .val (.int x1), .val (.int y1), .val (.int z2), .val (.int w2), .unset, .unset, .unset, .unset, .unset] [(.int (((p2.toUInt32 >>> ((5 : Int32) &&& 31).toUInt32).toInt32) &&& (1 : Int32)))])) _
            refine XS.ifNo X0.here hx rfl (hb hby at_60) rfl ((if0 _ _).trans (feq hcx7).1) ?_
            show Steps p.tables e below (s₁.setTop (mkF m 63 #[.val (.int p0), .val (.int p1), .val (.int p2), .val (.int n1), .val (.int n2), .val (.int x1), .val (.int y1), .val (.int z2), .val (.int w2), .unset, .unset, .unset, .unset, .unset] [])) _
            refine XS.iload X0.here hx rfl (hb hby at_63) rfl ?_
            show Steps p.tables e below (s₁.setTop (mkF m 65 #[.val (.int p0), .val (.int p1), .val (.int p2), .val (.int n1), .val (.int n2), .val (.int x1), .val (.int y1), .val (.int z2), .val (.int w2), .unset, .unset, .unset, .unset, .unset] [(.int y1)])) _
            refine XS.istore X0.here hx rfl (hb hby at_65) rfl (l' := #[.val (.int p0), .val (.int p1), .val (.int p2), .val (.int n1), .val (.int n2), .val (.int x1), .val (.int y1), .val (.int z2), .val (.int y1), .unset, .unset, .unset, .unset, .unset]) rfl ?_
            exact kt)
          exact kj3 ⟨z2, y1, ⟨hj_n1.2.2.2.2.1, hj_n1.2.2.2.1⟩, pre9⟩
      · skip
        have pre10 : ∀ t, Steps p.tables e below (s₁.setTop (mkF m 60 #[.val (.int p0), .val (.int p1), .val (.int p2), .val (.int n1), .val (.int n2), .val (.int x1), .val (.int y1), .val (.int x1), .val (.int w2), .unset, .unset, .unset, .unset, .unset] [(.int (((p2.toUInt32 >>> ((5 : Int32) &&& 31).toUInt32).toInt32) &&& (1 : Int32)))])) t → Steps p.tables e below (s₁.setTop (entryFrame m #[(.int p0), (.int p1), (.int p2)] maxLocals)) t := fun t kt => pre4 t (by
          show Steps p.tables e below (s₁.setTop (mkF m 48 #[.val (.int p0), .val (.int p1), .val (.int p2), .val (.int n1), .val (.int n2), .val (.int x1), .val (.int y1), .val (.int z2), .val (.int w2), .unset, .unset, .unset, .unset, .unset] [(.int (((p2.toUInt32 >>> ((4 : Int32) &&& 31).toUInt32).toInt32) &&& (1 : Int32)))])) _
          refine XS.ifNo X0.here hx rfl (hb hby at_48) rfl ((if0 _ _).trans (feq hcx5).1) ?_
          show Steps p.tables e below (s₁.setTop (mkF m 51 #[.val (.int p0), .val (.int p1), .val (.int p2), .val (.int n1), .val (.int n2), .val (.int x1), .val (.int y1), .val (.int z2), .val (.int w2), .unset, .unset, .unset, .unset, .unset] [])) _
          refine XS.iload X0.here hx rfl (hb hby at_51) rfl ?_
          show Steps p.tables e below (s₁.setTop (mkF m 53 #[.val (.int p0), .val (.int p1), .val (.int p2), .val (.int n1), .val (.int n2), .val (.int x1), .val (.int y1), .val (.int z2), .val (.int w2), .unset, .unset, .unset, .unset, .unset] [(.int x1)])) _
          refine XS.istore X0.here hx rfl (hb hby at_53) rfl (l' := #[.val (.int p0), .val (.int p1), .val (.int p2), .val (.int n1), .val (.int n2), .val (.int x1), .val (.int y1), .val (.int x1), .val (.int w2), .unset, .unset, .unset, .unset, .unset]) rfl ?_
          show Steps p.tables e below (s₁.setTop (mkF m 55 #[.val (.int p0), .val (.int p1), .val (.int p2), .val (.int n1), .val (.int n2), .val (.int x1), .val (.int y1), .val (.int x1), .val (.int w2), .unset, .unset, .unset, .unset, .unset] [])) _
          refine XS.iloadN X0.here hx rfl (hb hby at_55) rfl ?_
          show Steps p.tables e below (s₁.setTop (mkF m 56 #[.val (.int p0), .val (.int p1), .val (.int p2), .val (.int n1), .val (.int n2), .val (.int x1), .val (.int y1), .val (.int x1), .val (.int w2), .unset, .unset, .unset, .unset, .unset] [(.int p2)])) _
          refine XS.iconst X0.here hx rfl (hb hby at_56) ?_
          show Steps p.tables e below (s₁.setTop (mkF m 57 #[.val (.int p0), .val (.int p1), .val (.int p2), .val (.int n1), .val (.int n2), .val (.int x1), .val (.int y1), .val (.int x1), .val (.int w2), .unset, .unset, .unset, .unset, .unset] [(.int (5 : Int32)), (.int p2)])) _
          refine XS.iushr X0.here hx rfl (hb hby at_57) rfl ?_
          show Steps p.tables e below (s₁.setTop (mkF m 58 #[.val (.int p0), .val (.int p1), .val (.int p2), .val (.int n1), .val (.int n2), .val (.int x1), .val (.int y1), .val (.int x1), .val (.int w2), .unset, .unset, .unset, .unset, .unset] [(.int ((p2.toUInt32 >>> ((5 : Int32) &&& 31).toUInt32).toInt32))])) _
          refine XS.iconst X0.here hx rfl (hb hby at_58) ?_
          show Steps p.tables e below (s₁.setTop (mkF m 59 #[.val (.int p0), .val (.int p1), .val (.int p2), .val (.int n1), .val (.int n2), .val (.int x1), .val (.int y1), .val (.int x1), .val (.int w2), .unset, .unset, .unset, .unset, .unset] [(.int (1 : Int32)), (.int ((p2.toUInt32 >>> ((5 : Int32) &&& 31).toUInt32).toInt32))])) _
          refine XS.iand X0.here hx rfl (hb hby at_59) rfl ?_
          exact kt)
        by_cases hcx11 : (((p2.toUInt32 >>> ((5 : Int32) &&& 31).toUInt32).toInt32) &&& (1 : Int32)) = (0 : Int32)
        · skip
          have pre12 : ∀ t, Steps p.tables e below (s₁.setTop (mkF m 67 #[.val (.int p0), .val (.int p1), .val (.int p2), .val (.int n1), .val (.int n2), .val (.int x1), .val (.int y1), .val (.int x1), .val (.int w2), .unset, .unset, .unset, .unset, .unset] [])) t → Steps p.tables e below (s₁.setTop (entryFrame m #[(.int p0), (.int p1), (.int p2)] maxLocals)) t := fun t kt => pre10 t (by
            show Steps p.tables e below (s₁.setTop (mkF m 60 #[.val (.int p0), .val (.int p1), .val (.int p2), .val (.int n1), .val (.int n2), .val (.int x1), .val (.int y1), .val (.int x1), .val (.int w2), .unset, .unset, .unset, .unset, .unset] [(.int (((p2.toUInt32 >>> ((5 : Int32) &&& 31).toUInt32).toInt32) &&& (1 : Int32)))])) _
            refine XS.ifYes X0.here hx rfl (pc0 := 60) (pc' := 67) rfl (hb hby at_60) rfl ((if0 _ _).trans (teq hcx11).1) (by decide) (by decide) ?_
            exact kt)
          exact kj3 ⟨x1, w2, ⟨hj_n1.2.2.1, hj_n1.2.2.2.2.2⟩, pre12⟩
        · skip
          have pre13 : ∀ t, Steps p.tables e below (s₁.setTop (mkF m 67 #[.val (.int p0), .val (.int p1), .val (.int p2), .val (.int n1), .val (.int n2), .val (.int x1), .val (.int y1), .val (.int x1), .val (.int y1), .unset, .unset, .unset, .unset, .unset] [])) t → Steps p.tables e below (s₁.setTop (entryFrame m #[(.int p0), (.int p1), (.int p2)] maxLocals)) t := fun t kt => pre10 t (by
            show Steps p.tables e below (s₁.setTop (mkF m 60 #[.val (.int p0), .val (.int p1), .val (.int p2), .val (.int n1), .val (.int n2), .val (.int x1), .val (.int y1), .val (.int x1), .val (.int w2), .unset, .unset, .unset, .unset, .unset] [(.int (((p2.toUInt32 >>> ((5 : Int32) &&& 31).toUInt32).toInt32) &&& (1 : Int32)))])) _
            refine XS.ifNo X0.here hx rfl (hb hby at_60) rfl ((if0 _ _).trans (feq hcx11).1) ?_
            show Steps p.tables e below (s₁.setTop (mkF m 63 #[.val (.int p0), .val (.int p1), .val (.int p2), .val (.int n1), .val (.int n2), .val (.int x1), .val (.int y1), .val (.int x1), .val (.int w2), .unset, .unset, .unset, .unset, .unset] [])) _
            refine XS.iload X0.here hx rfl (hb hby at_63) rfl ?_
            show Steps p.tables e below (s₁.setTop (mkF m 65 #[.val (.int p0), .val (.int p1), .val (.int p2), .val (.int n1), .val (.int n2), .val (.int x1), .val (.int y1), .val (.int x1), .val (.int w2), .unset, .unset, .unset, .unset, .unset] [(.int y1)])) _
            refine XS.istore X0.here hx rfl (hb hby at_65) rfl (l' := #[.val (.int p0), .val (.int p1), .val (.int p2), .val (.int n1), .val (.int n2), .val (.int x1), .val (.int y1), .val (.int x1), .val (.int y1), .unset, .unset, .unset, .unset, .unset]) rfl ?_
            exact kt)
          exact kj3 ⟨x1, y1, ⟨hj_n1.2.2.1, hj_n1.2.2.2.1⟩, pre13⟩
    · rintro ⟨x2, y2, hj_x2, preJ3⟩
      obtain ⟨_, _, ⟨T14, L14, k14, n14⟩, -, X14, hSq14, hgq14, ⟨Lc14, hQ14, l14, y14, z14, hR14⟩, st14⟩ := callSS X0 hx (y := (⟨"com/example/topics_into_queries/topicsintoqueries/CodePointsComparePinLaw", "str", "(ICC)Ljava/lang/String;"⟩ : MethodName)) hown0 (mvT hZ0 (own_k hw 1 rfl)) (mvT hZ0 (own_k hw 2 rfl)) (mvT hZ0 (own_k hw 3 rfl)) (mvT hZ0 (own_k hw 4 rfl)) (by decide) (own_backSQ (W := 0) (rmStr l Z a0 hw [] n1 x1 y1 G1 h0 n0 Z0 hS (hG) hSa hSh hSl hO (hj_n1.1) (hj_n1.2.2.1) (hj_n1.2.2.2.1)) hZ0 (own_k hw 4 rfl) (own_k hw 3 rfl) (by decide) (by decide) hEL R0.1 sf0 all0) (g := (mkF m 72 #[.val (.int p0), .val (.int p1), .val (.int p2), .val (.int n1), .val (.int n2), .val (.int x1), .val (.int y1), .val (.int x2), .val (.int y2), .unset, .unset, .unset, .unset, .unset] [(.int y1), (.int x1), (.int n1)])) rfl (by rw [hml]; rfl) (argsL := [(.int n1), (.int x1), (.int y1)]) (rest := []) (lenOf own_pd_20 rfl) rfl (by show 2 * 0 + _ ≤ _; exact Nat.le_of_eq rfl) (hb hby at_72) (fun _ _ => ⟨rfl, e0, (by decide : 0 + 4 ≤ _), (by decide : 0 + 12 ≤ _)⟩)
      dsimp only [Pt.U, Pt.locs, Pt.cells, Pt.slots] at X14 l14 y14 z14 st14 hQ14 hSq14 hgq14 hR14
      subst l14
      subst y14 z14
      obtain ⟨Xr14, hS14, hZ14, hown14⟩ := rebS hS0 (k0 := h0.size) (by rw [e0]; exact Y0) X14 hSq14 hgq14 hZ0 hown0
      obtain ⟨bb_14, tt_14, k0_14, cc_14, ll_14, vv_14, Nq14, Kq14, p14_0, p14_1, p14_2, p14_3, p14_4, p14_5, hv14⟩ := hQ14
      have N14 := Fr.app N0 Nq14
      have g_bb_14 : n0 ≤ bb_14 := Nat.le_trans Z0 p14_0
      have q_bb_14 : Safe Z own_EL s.vm h0 bb_14 := Safe.new p14_0
      have R15 : CHr Z own_EL s.vm h0 T14.vm T14.heap := R0.trans (hR14)
      have Y14 : T14.heap.size ≤ T14.heap.size := Nat.le_refl _
      subst hv14
      have f17 : Old Z n0 T14.heap := (hO.keep Kq14 all0)
      have f18 : n0 ≤ T14.heap.size := (Nat.le_trans Z0 Kq14.1)
      obtain ⟨_, _, ⟨T16, L16, k16, n16⟩, -, X16, hSq16, hgq16, ⟨Lc16, hQ16, l16, y16, z16, hR16⟩, st16⟩ := callSS Xr14 hx (y := (⟨"com/example/topics_into_queries/topicsintoqueries/CodePointsComparePinLaw", "str", "(ICC)Ljava/lang/String;"⟩ : MethodName)) hown14 (mvT hZ14 (own_k hw 1 rfl)) (mvT hZ14 (own_k hw 2 rfl)) (mvT hZ14 (own_k hw 3 rfl)) (mvT hZ14 (own_k hw 4 rfl)) (by decide) (own_backSQ (W := 0) (rmStr l Z a0 hw [] n2 x2 y2 G1 T14.heap n0 f18 hS (hG) hSa hSh hSl f17 (hj_n1.2.1) (hj_x2.1) (hj_x2.2)) hZ14 (own_k hw 4 rfl) (own_k hw 3 rfl) (by decide) (by decide) hEL R15.1 sf0 all0) (g := (mkF m 83 #[.val (.int p0), .val (.int p1), .val (.int p2), .val (.int n1), .val (.int n2), .val (.int x1), .val (.int y1), .val (.int x2), .val (.int y2), .val (.ref bb_14), .unset, .unset, .unset, .unset] [(.int y2), (.int x2), (.int n2)])) rfl (by rw [hml]; rfl) (argsL := [(.int n2), (.int x2), (.int y2)]) (rest := []) (lenOf own_pd_20 rfl) rfl (by show 2 * 0 + _ ≤ _; exact Nat.le_of_eq rfl) (hb hby at_83) (fun _ _ => ⟨rfl, rfl, (by decide : 4 + 4 ≤ _), (by decide : 12 + 12 ≤ _)⟩)
      dsimp only [Pt.U, Pt.locs, Pt.cells, Pt.slots] at X16 l16 y16 z16 st16 hQ16 hSq16 hgq16 hR16
      subst l16
      subst y16 z16
      obtain ⟨Xr16, hS16, hZ16, hown16⟩ := rebS hS14 (k0 := T14.heap.size) Y14 X16 hSq16 hgq16 hZ14 hown14
      obtain ⟨bb_16, tt_16, k0_16, cc_16, ll_16, vv_16, Nq16, Kq16, p16_0, p16_1, p16_2, p16_3, p16_4, p16_5, hv16⟩ := hQ16
      have N16 := Fr.app N14 Nq16
      have g_bb_16 : n0 ≤ bb_16 := Nat.le_trans f18 p16_0
      have q_bb_16 : Safe Z own_EL T14.vm T14.heap bb_16 := Safe.new p16_0
      have R19 : CHr Z own_EL s.vm h0 T16.vm T16.heap := R15.trans (hR16)
      have Y16 : T16.heap.size ≤ T16.heap.size := Nat.le_refl _
      subst hv16
      have f21 : n0 ≤ T16.heap.size := (Nat.le_trans f18 Kq16.1)
      obtain ⟨_, _, ⟨T20, L20, k20, n20⟩, -, X20, ⟨Lc20, hQ20, l20, y20, z20⟩, st20⟩ := Jvm.LawKit.callS Xr16 hx (y := (⟨"java/lang/Math", "min", "(II)I"⟩ : MethodName)) hown16 (mvT hZ16 (own_k hw 38 rfl)) (mvT hZ16 (own_k hw 39 rfl)) (mvT hZ16 (own_k hw 40 rfl)) (mvT hZ16 (own_k hw 41 rfl)) (by decide) (backOf (W := 0) (rmMn l Z a0 hw [] n1 n2 T16.heap n0 f21 ) hZ16 (own_k hw 41 rfl) (own_k hw 40 rfl) (by decide) (by decide)) (g := (mkF m 91 #[.val (.int p0), .val (.int p1), .val (.int p2), .val (.int n1), .val (.int n2), .val (.int x1), .val (.int y1), .val (.int x2), .val (.int y2), .val (.ref bb_14), .val (.ref bb_16), .unset, .unset, .unset] [(.int n2), (.int n1)])) rfl (by rw [hml]; rfl) (argsL := [(.int n1), (.int n2)]) (rest := []) (lenOf own_pd_17 rfl) rfl (by show 2 * 0 + _ ≤ _; exact Nat.le_of_eq rfl) (hb hby at_91) (fun _ _ => ⟨rfl, rfl, (by decide : 8 + 0 ≤ _), (by decide : 24 + 0 ≤ _)⟩)
      dsimp only [Pt.U, Pt.locs, Pt.cells, Pt.slots] at X20 l20 y20 z20 st20 hQ20
      subst l20
      subst y20 z20
      obtain ⟨Nq20, eh20, hv20⟩ := hQ20
      have N20 := Fr.app N16 Nq20
      subst hv20
      have pre22 : ∀ t, Steps p.tables e below (T20.setTop (mkF m 96 #[.val (.int p0), .val (.int p1), .val (.int p2), .val (.int n1), .val (.int n2), .val (.int x1), .val (.int y1), .val (.int x2), .val (.int y2), .val (.ref bb_14), .val (.ref bb_16), .val (.int (own_mn n1 n2)), .unset, .unset] [])) t → Steps p.tables e below (s₁.setTop (entryFrame m #[(.int p0), (.int p1), (.int p2)] maxLocals)) t := fun t kt => preJ3 t (by
        show Steps p.tables e below (s₁.setTop (mkF m 67 #[.val (.int p0), .val (.int p1), .val (.int p2), .val (.int n1), .val (.int n2), .val (.int x1), .val (.int y1), .val (.int x2), .val (.int y2), .unset, .unset, .unset, .unset, .unset] [])) _
        refine XS.iloadN X0.here hx rfl (hb hby at_67) rfl ?_
        show Steps p.tables e below (s₁.setTop (mkF m 68 #[.val (.int p0), .val (.int p1), .val (.int p2), .val (.int n1), .val (.int n2), .val (.int x1), .val (.int y1), .val (.int x2), .val (.int y2), .unset, .unset, .unset, .unset, .unset] [(.int n1)])) _
        refine XS.iload X0.here hx rfl (hb hby at_68) rfl ?_
        show Steps p.tables e below (s₁.setTop (mkF m 70 #[.val (.int p0), .val (.int p1), .val (.int p2), .val (.int n1), .val (.int n2), .val (.int x1), .val (.int y1), .val (.int x2), .val (.int y2), .unset, .unset, .unset, .unset, .unset] [(.int x1), (.int n1)])) _
        refine XS.iload X0.here hx rfl (hb hby at_70) rfl ?_
        show Steps p.tables e below (s₁.setTop (mkF m 72 #[.val (.int p0), .val (.int p1), .val (.int p2), .val (.int n1), .val (.int n2), .val (.int x1), .val (.int y1), .val (.int x2), .val (.int y2), .unset, .unset, .unset, .unset, .unset] [(.int y1), (.int x1), (.int n1)])) _
        refine st14.trans ?_
        show Steps p.tables e below (T14.setTop (mkF m 75 #[.val (.int p0), .val (.int p1), .val (.int p2), .val (.int n1), .val (.int n2), .val (.int x1), .val (.int y1), .val (.int x2), .val (.int y2), .unset, .unset, .unset, .unset, .unset] [(.ref bb_14)])) _
        refine XS.astore Xr14.here hx rfl (hb hby at_75) rfl rfl (l' := #[.val (.int p0), .val (.int p1), .val (.int p2), .val (.int n1), .val (.int n2), .val (.int x1), .val (.int y1), .val (.int x2), .val (.int y2), .val (.ref bb_14), .unset, .unset, .unset, .unset]) rfl ?_
        show Steps p.tables e below (T14.setTop (mkF m 77 #[.val (.int p0), .val (.int p1), .val (.int p2), .val (.int n1), .val (.int n2), .val (.int x1), .val (.int y1), .val (.int x2), .val (.int y2), .val (.ref bb_14), .unset, .unset, .unset, .unset] [])) _
        refine XS.iload Xr14.here hx rfl (hb hby at_77) rfl ?_
        show Steps p.tables e below (T14.setTop (mkF m 79 #[.val (.int p0), .val (.int p1), .val (.int p2), .val (.int n1), .val (.int n2), .val (.int x1), .val (.int y1), .val (.int x2), .val (.int y2), .val (.ref bb_14), .unset, .unset, .unset, .unset] [(.int n2)])) _
        refine XS.iload Xr14.here hx rfl (hb hby at_79) rfl ?_
        show Steps p.tables e below (T14.setTop (mkF m 81 #[.val (.int p0), .val (.int p1), .val (.int p2), .val (.int n1), .val (.int n2), .val (.int x1), .val (.int y1), .val (.int x2), .val (.int y2), .val (.ref bb_14), .unset, .unset, .unset, .unset] [(.int x2), (.int n2)])) _
        refine XS.iload Xr14.here hx rfl (hb hby at_81) rfl ?_
        show Steps p.tables e below (T14.setTop (mkF m 83 #[.val (.int p0), .val (.int p1), .val (.int p2), .val (.int n1), .val (.int n2), .val (.int x1), .val (.int y1), .val (.int x2), .val (.int y2), .val (.ref bb_14), .unset, .unset, .unset, .unset] [(.int y2), (.int x2), (.int n2)])) _
        refine st16.trans ?_
        show Steps p.tables e below (T16.setTop (mkF m 86 #[.val (.int p0), .val (.int p1), .val (.int p2), .val (.int n1), .val (.int n2), .val (.int x1), .val (.int y1), .val (.int x2), .val (.int y2), .val (.ref bb_14), .unset, .unset, .unset, .unset] [(.ref bb_16)])) _
        refine XS.astore Xr16.here hx rfl (hb hby at_86) rfl rfl (l' := #[.val (.int p0), .val (.int p1), .val (.int p2), .val (.int n1), .val (.int n2), .val (.int x1), .val (.int y1), .val (.int x2), .val (.int y2), .val (.ref bb_14), .val (.ref bb_16), .unset, .unset, .unset]) rfl ?_
        show Steps p.tables e below (T16.setTop (mkF m 88 #[.val (.int p0), .val (.int p1), .val (.int p2), .val (.int n1), .val (.int n2), .val (.int x1), .val (.int y1), .val (.int x2), .val (.int y2), .val (.ref bb_14), .val (.ref bb_16), .unset, .unset, .unset] [])) _
        refine XS.iloadN Xr16.here hx rfl (hb hby at_88) rfl ?_
        show Steps p.tables e below (T16.setTop (mkF m 89 #[.val (.int p0), .val (.int p1), .val (.int p2), .val (.int n1), .val (.int n2), .val (.int x1), .val (.int y1), .val (.int x2), .val (.int y2), .val (.ref bb_14), .val (.ref bb_16), .unset, .unset, .unset] [(.int n1)])) _
        refine XS.iload Xr16.here hx rfl (hb hby at_89) rfl ?_
        show Steps p.tables e below (T16.setTop (mkF m 91 #[.val (.int p0), .val (.int p1), .val (.int p2), .val (.int n1), .val (.int n2), .val (.int x1), .val (.int y1), .val (.int x2), .val (.int y2), .val (.ref bb_14), .val (.ref bb_16), .unset, .unset, .unset] [(.int n2), (.int n1)])) _
        refine st20 _ ?_
        show Steps p.tables e below (T20.setTop (mkF m 94 #[.val (.int p0), .val (.int p1), .val (.int p2), .val (.int n1), .val (.int n2), .val (.int x1), .val (.int y1), .val (.int x2), .val (.int y2), .val (.ref bb_14), .val (.ref bb_16), .unset, .unset, .unset] [(.int (own_mn n1 n2))])) _
        refine XS.istore X20.here hx rfl (hb hby at_94) rfl (l' := #[.val (.int p0), .val (.int p1), .val (.int p2), .val (.int n1), .val (.int n2), .val (.int x1), .val (.int y1), .val (.int x2), .val (.int y2), .val (.ref bb_14), .val (.ref bb_16), .val (.int (own_mn n1 n2)), .unset, .unset]) rfl ?_
        exact kt)
      refine cps (A := ∃ (cm : Int32), (((own_mn n1 n2) < (1 : Int32) ∨ x1 = x2) ∧ ((own_mn n1 n2) < (2 : Int32) ∨ y1 = y2)) ∧ ∀ t, Steps p.tables e below (T20.setTop (mkF m 160 #[.val (.int p0), .val (.int p1), .val (.int p2), .val (.int n1), .val (.int n2), .val (.int x1), .val (.int y1), .val (.int x2), .val (.int y2), .val (.ref bb_14), .val (.ref bb_16), .val (.int cm), .unset, .unset] [])) t → Steps p.tables e below (s₁.setTop (entryFrame m #[(.int p0), (.int p1), (.int p2)] maxLocals)) t) (fun kj23 => ?_) ?_
      · skip
        have pre24 : ∀ t, Steps p.tables e below (T20.setTop (mkF m 99 #[.val (.int p0), .val (.int p1), .val (.int p2), .val (.int n1), .val (.int n2), .val (.int x1), .val (.int y1), .val (.int x2), .val (.int y2), .val (.ref bb_14), .val (.ref bb_16), .val (.int (own_mn n1 n2)), .unset, .unset] [(.int (1 : Int32)), (.int (own_mn n1 n2))])) t → Steps p.tables e below (s₁.setTop (entryFrame m #[(.int p0), (.int p1), (.int p2)] maxLocals)) t := fun t kt => pre22 t (by
          show Steps p.tables e below (T20.setTop (mkF m 96 #[.val (.int p0), .val (.int p1), .val (.int p2), .val (.int n1), .val (.int n2), .val (.int x1), .val (.int y1), .val (.int x2), .val (.int y2), .val (.ref bb_14), .val (.ref bb_16), .val (.int (own_mn n1 n2)), .unset, .unset] [])) _
          refine XS.iload X20.here hx rfl (hb hby at_96) rfl ?_
          show Steps p.tables e below (T20.setTop (mkF m 98 #[.val (.int p0), .val (.int p1), .val (.int p2), .val (.int n1), .val (.int n2), .val (.int x1), .val (.int y1), .val (.int x2), .val (.int y2), .val (.ref bb_14), .val (.ref bb_16), .val (.int (own_mn n1 n2)), .unset, .unset] [(.int (own_mn n1 n2))])) _
          refine XS.iconst X20.here hx rfl (hb hby at_98) ?_
          exact kt)
        by_cases hcx25 : (own_mn n1 n2) < (1 : Int32)
        · skip
          have pre26 : ∀ t, Steps p.tables e below (T20.setTop (mkF m 160 #[.val (.int p0), .val (.int p1), .val (.int p2), .val (.int n1), .val (.int n2), .val (.int x1), .val (.int y1), .val (.int x2), .val (.int y2), .val (.ref bb_14), .val (.ref bb_16), .val (.int (own_mn n1 n2)), .unset, .unset] [])) t → Steps p.tables e below (s₁.setTop (entryFrame m #[(.int p0), (.int p1), (.int p2)] maxLocals)) t := fun t kt => pre24 t (by
            show Steps p.tables e below (T20.setTop (mkF m 99 #[.val (.int p0), .val (.int p1), .val (.int p2), .val (.int n1), .val (.int n2), .val (.int x1), .val (.int y1), .val (.int x2), .val (.int y2), .val (.ref bb_14), .val (.ref bb_16), .val (.int (own_mn n1 n2)), .unset, .unset] [(.int (1 : Int32)), (.int (own_mn n1 n2))])) _
            refine XS.icmpYes X20.here hx rfl (pc0 := 99) (pc' := 128) rfl (hb hby at_99) rfl (tlt hcx25).1 (by decide) (by decide) ?_
            show Steps p.tables e below (T20.setTop (mkF m 128 #[.val (.int p0), .val (.int p1), .val (.int p2), .val (.int n1), .val (.int n2), .val (.int x1), .val (.int y1), .val (.int x2), .val (.int y2), .val (.ref bb_14), .val (.ref bb_16), .val (.int (own_mn n1 n2)), .unset, .unset] [])) _
            refine XS.iload X20.here hx rfl (hb hby at_128) rfl ?_
            show Steps p.tables e below (T20.setTop (mkF m 130 #[.val (.int p0), .val (.int p1), .val (.int p2), .val (.int n1), .val (.int n2), .val (.int x1), .val (.int y1), .val (.int x2), .val (.int y2), .val (.ref bb_14), .val (.ref bb_16), .val (.int (own_mn n1 n2)), .unset, .unset] [(.int (own_mn n1 n2))])) _
            refine XS.iconst X20.here hx rfl (hb hby at_130) ?_
            show Steps p.tables e below (T20.setTop (mkF m 131 #[.val (.int p0), .val (.int p1), .val (.int p2), .val (.int n1), .val (.int n2), .val (.int x1), .val (.int y1), .val (.int x2), .val (.int y2), .val (.ref bb_14), .val (.ref bb_16), .val (.int (own_mn n1 n2)), .unset, .unset] [(.int (2 : Int32)), (.int (own_mn n1 n2))])) _
            refine XS.icmpYes X20.here hx rfl (pc0 := 131) (pc' := 160) rfl (hb hby at_131) rfl (tlt (own_yes hj_n1.1 hj_n1.2.1 hcx25)).1 (by decide) (by decide) ?_
            exact kt)
          exact kj23 ⟨(own_mn n1 n2), ⟨Or.inl hcx25, Or.inl (own_yes hj_n1.1 hj_n1.2.1 hcx25)⟩, pre26⟩
        · skip
          have pre27 : ∀ t, Steps p.tables e below (T20.setTop (mkF m 106 #[.val (.int p0), .val (.int p1), .val (.int p2), .val (.int n1), .val (.int n2), .val (.int x1), .val (.int y1), .val (.int x2), .val (.int y2), .val (.ref bb_14), .val (.ref bb_16), .val (.int (own_mn n1 n2)), .unset, .unset] [(.int x2), (.int x1)])) t → Steps p.tables e below (s₁.setTop (entryFrame m #[(.int p0), (.int p1), (.int p2)] maxLocals)) t := fun t kt => pre24 t (by
            show Steps p.tables e below (T20.setTop (mkF m 99 #[.val (.int p0), .val (.int p1), .val (.int p2), .val (.int n1), .val (.int n2), .val (.int x1), .val (.int y1), .val (.int x2), .val (.int y2), .val (.ref bb_14), .val (.ref bb_16), .val (.int (own_mn n1 n2)), .unset, .unset] [(.int (1 : Int32)), (.int (own_mn n1 n2))])) _
            refine XS.icmpNo X20.here hx rfl (hb hby at_99) rfl (flt hcx25).1 ?_
            show Steps p.tables e below (T20.setTop (mkF m 102 #[.val (.int p0), .val (.int p1), .val (.int p2), .val (.int n1), .val (.int n2), .val (.int x1), .val (.int y1), .val (.int x2), .val (.int y2), .val (.ref bb_14), .val (.ref bb_16), .val (.int (own_mn n1 n2)), .unset, .unset] [])) _
            refine XS.iload X20.here hx rfl (hb hby at_102) rfl ?_
            show Steps p.tables e below (T20.setTop (mkF m 104 #[.val (.int p0), .val (.int p1), .val (.int p2), .val (.int n1), .val (.int n2), .val (.int x1), .val (.int y1), .val (.int x2), .val (.int y2), .val (.ref bb_14), .val (.ref bb_16), .val (.int (own_mn n1 n2)), .unset, .unset] [(.int x1)])) _
            refine XS.iload X20.here hx rfl (hb hby at_104) rfl ?_
            exact kt)
          by_cases hcx28 : x1 = x2
          · skip
            have pre29 : ∀ t, Steps p.tables e below (T20.setTop (mkF m 131 #[.val (.int p0), .val (.int p1), .val (.int p2), .val (.int n1), .val (.int n2), .val (.int x1), .val (.int y1), .val (.int x2), .val (.int y2), .val (.ref bb_14), .val (.ref bb_16), .val (.int (own_mn n1 n2)), .unset, .unset] [(.int (2 : Int32)), (.int (own_mn n1 n2))])) t → Steps p.tables e below (s₁.setTop (entryFrame m #[(.int p0), (.int p1), (.int p2)] maxLocals)) t := fun t kt => pre27 t (by
              show Steps p.tables e below (T20.setTop (mkF m 106 #[.val (.int p0), .val (.int p1), .val (.int p2), .val (.int n1), .val (.int n2), .val (.int x1), .val (.int y1), .val (.int x2), .val (.int y2), .val (.ref bb_14), .val (.ref bb_16), .val (.int (own_mn n1 n2)), .unset, .unset] [(.int x2), (.int x1)])) _
              refine XS.icmpYes X20.here hx rfl (pc0 := 106) (pc' := 128) rfl (hb hby at_106) rfl (teq hcx28).1 (by decide) (by decide) ?_
              show Steps p.tables e below (T20.setTop (mkF m 128 #[.val (.int p0), .val (.int p1), .val (.int p2), .val (.int n1), .val (.int n2), .val (.int x1), .val (.int y1), .val (.int x2), .val (.int y2), .val (.ref bb_14), .val (.ref bb_16), .val (.int (own_mn n1 n2)), .unset, .unset] [])) _
              refine XS.iload X20.here hx rfl (hb hby at_128) rfl ?_
              show Steps p.tables e below (T20.setTop (mkF m 130 #[.val (.int p0), .val (.int p1), .val (.int p2), .val (.int n1), .val (.int n2), .val (.int x1), .val (.int y1), .val (.int x2), .val (.int y2), .val (.ref bb_14), .val (.ref bb_16), .val (.int (own_mn n1 n2)), .unset, .unset] [(.int (own_mn n1 n2))])) _
              refine XS.iconst X20.here hx rfl (hb hby at_130) ?_
              exact kt)
            by_cases hcx30 : (own_mn n1 n2) < (2 : Int32)
            · skip
              have pre31 : ∀ t, Steps p.tables e below (T20.setTop (mkF m 160 #[.val (.int p0), .val (.int p1), .val (.int p2), .val (.int n1), .val (.int n2), .val (.int x1), .val (.int y1), .val (.int x2), .val (.int y2), .val (.ref bb_14), .val (.ref bb_16), .val (.int (own_mn n1 n2)), .unset, .unset] [])) t → Steps p.tables e below (s₁.setTop (entryFrame m #[(.int p0), (.int p1), (.int p2)] maxLocals)) t := fun t kt => pre29 t (by
                show Steps p.tables e below (T20.setTop (mkF m 131 #[.val (.int p0), .val (.int p1), .val (.int p2), .val (.int n1), .val (.int n2), .val (.int x1), .val (.int y1), .val (.int x2), .val (.int y2), .val (.ref bb_14), .val (.ref bb_16), .val (.int (own_mn n1 n2)), .unset, .unset] [(.int (2 : Int32)), (.int (own_mn n1 n2))])) _
                refine XS.icmpYes X20.here hx rfl (pc0 := 131) (pc' := 160) rfl (hb hby at_131) rfl (tlt hcx30).1 (by decide) (by decide) ?_
                exact kt)
              exact kj23 ⟨(own_mn n1 n2), ⟨Or.inr hcx28, Or.inl hcx30⟩, pre31⟩
            · skip
              have pre32 : ∀ t, Steps p.tables e below (T20.setTop (mkF m 138 #[.val (.int p0), .val (.int p1), .val (.int p2), .val (.int n1), .val (.int n2), .val (.int x1), .val (.int y1), .val (.int x2), .val (.int y2), .val (.ref bb_14), .val (.ref bb_16), .val (.int (own_mn n1 n2)), .unset, .unset] [(.int y2), (.int y1)])) t → Steps p.tables e below (s₁.setTop (entryFrame m #[(.int p0), (.int p1), (.int p2)] maxLocals)) t := fun t kt => pre29 t (by
                show Steps p.tables e below (T20.setTop (mkF m 131 #[.val (.int p0), .val (.int p1), .val (.int p2), .val (.int n1), .val (.int n2), .val (.int x1), .val (.int y1), .val (.int x2), .val (.int y2), .val (.ref bb_14), .val (.ref bb_16), .val (.int (own_mn n1 n2)), .unset, .unset] [(.int (2 : Int32)), (.int (own_mn n1 n2))])) _
                refine XS.icmpNo X20.here hx rfl (hb hby at_131) rfl (flt hcx30).1 ?_
                show Steps p.tables e below (T20.setTop (mkF m 134 #[.val (.int p0), .val (.int p1), .val (.int p2), .val (.int n1), .val (.int n2), .val (.int x1), .val (.int y1), .val (.int x2), .val (.int y2), .val (.ref bb_14), .val (.ref bb_16), .val (.int (own_mn n1 n2)), .unset, .unset] [])) _
                refine XS.iload X20.here hx rfl (hb hby at_134) rfl ?_
                show Steps p.tables e below (T20.setTop (mkF m 136 #[.val (.int p0), .val (.int p1), .val (.int p2), .val (.int n1), .val (.int n2), .val (.int x1), .val (.int y1), .val (.int x2), .val (.int y2), .val (.ref bb_14), .val (.ref bb_16), .val (.int (own_mn n1 n2)), .unset, .unset] [(.int y1)])) _
                refine XS.iload X20.here hx rfl (hb hby at_136) rfl ?_
                exact kt)
              by_cases hcx33 : y1 = y2
              · skip
                have pre34 : ∀ t, Steps p.tables e below (T20.setTop (mkF m 160 #[.val (.int p0), .val (.int p1), .val (.int p2), .val (.int n1), .val (.int n2), .val (.int x1), .val (.int y1), .val (.int x2), .val (.int y2), .val (.ref bb_14), .val (.ref bb_16), .val (.int (own_mn n1 n2)), .unset, .unset] [])) t → Steps p.tables e below (s₁.setTop (entryFrame m #[(.int p0), (.int p1), (.int p2)] maxLocals)) t := fun t kt => pre32 t (by
                  show Steps p.tables e below (T20.setTop (mkF m 138 #[.val (.int p0), .val (.int p1), .val (.int p2), .val (.int n1), .val (.int n2), .val (.int x1), .val (.int y1), .val (.int x2), .val (.int y2), .val (.ref bb_14), .val (.ref bb_16), .val (.int (own_mn n1 n2)), .unset, .unset] [(.int y2), (.int y1)])) _
                  refine XS.icmpYes X20.here hx rfl (pc0 := 138) (pc' := 160) rfl (hb hby at_138) rfl (teq hcx33).1 (by decide) (by decide) ?_
                  exact kt)
                exact kj23 ⟨(own_mn n1 n2), ⟨Or.inr hcx28, Or.inr hcx33⟩, pre34⟩
              · skip
                obtain ⟨_, _, ⟨T35, L35, k35, n35⟩, -, X35, ⟨Lc35, hQ35, l35, y35, z35⟩, st35⟩ := Jvm.LawKit.callS X20 hx (y := (⟨"com/example/topics_into_queries/topicsintoqueries/CodePointsComparePinLaw", "key", "(I)I"⟩ : MethodName)) hown16 (mvT hZ16 (own_k hw 83 rfl)) (mvT hZ16 (own_k hw 84 rfl)) (mvT hZ16 (own_k hw 3 rfl)) (mvT hZ16 (own_k hw 85 rfl)) (by decide) (backOf (W := 0) (rmKy l Z a0 hw [] y1 T16.heap n0 f21 ) hZ16 (own_k hw 85 rfl) (own_k hw 3 rfl) (by decide) (by decide)) (g := (mkF m 143 #[.val (.int p0), .val (.int p1), .val (.int p2), .val (.int n1), .val (.int n2), .val (.int x1), .val (.int y1), .val (.int x2), .val (.int y2), .val (.ref bb_14), .val (.ref bb_16), .val (.int (own_mn n1 n2)), .unset, .unset] [(.int y1)])) rfl (by rw [hml]; rfl) (argsL := [(.int y1)]) (rest := []) (lenOf own_pd_6 rfl) rfl (by show 2 * 0 + _ ≤ _; exact Nat.le_of_eq rfl) (hb hby at_143) (fun _ _ => ⟨rfl, eh20, (by decide : 8 + 0 ≤ _), (by decide : 24 + 0 ≤ _)⟩)
                dsimp only [Pt.U, Pt.locs, Pt.cells, Pt.slots] at X35 l35 y35 z35 st35 hQ35
                subst l35
                subst y35 z35
                obtain ⟨Nq35, eh35, hv35⟩ := hQ35
                have N35 := Fr.app N20 Nq35
                subst hv35
                obtain ⟨_, _, ⟨T36, L36, k36, n36⟩, -, X36, ⟨Lc36, hQ36, l36, y36, z36⟩, st36⟩ := Jvm.LawKit.callS X35 hx (y := (⟨"com/example/topics_into_queries/topicsintoqueries/CodePointsComparePinLaw", "key", "(I)I"⟩ : MethodName)) hown16 (mvT hZ16 (own_k hw 83 rfl)) (mvT hZ16 (own_k hw 84 rfl)) (mvT hZ16 (own_k hw 3 rfl)) (mvT hZ16 (own_k hw 85 rfl)) (by decide) (backOf (W := 1) (rmKy l Z a0 hw [] y2 T16.heap n0 f21 ) hZ16 (own_k hw 85 rfl) (own_k hw 3 rfl) (by decide) (by decide)) (g := (mkF m 148 #[.val (.int p0), .val (.int p1), .val (.int p2), .val (.int n1), .val (.int n2), .val (.int x1), .val (.int y1), .val (.int x2), .val (.int y2), .val (.ref bb_14), .val (.ref bb_16), .val (.int (own_mn n1 n2)), .unset, .unset] [(.int y2), (.int (own_key y1))])) rfl (by rw [hml]; rfl) (argsL := [(.int y2)]) (rest := [(.int (own_key y1))]) (lenOf own_pd_6 rfl) rfl (by show 2 * 0 + _ ≤ _; exact Nat.le_of_eq rfl) (hb hby at_148) (fun _ _ => ⟨rfl, eh35, (by decide : 8 + 0 ≤ _), (by decide : 24 + 0 ≤ _)⟩)
                dsimp only [Pt.U, Pt.locs, Pt.cells, Pt.slots] at X36 l36 y36 z36 st36 hQ36
                subst l36
                subst y36 z36
                obtain ⟨Nq36, eh36, hv36⟩ := hQ36
                have N36 := Fr.app N35 Nq36
                subst hv36
                obtain ⟨_, _, ⟨T37, L37, k37, n37⟩, -, X37, ⟨Lc37, hQ37, l37, y37, z37⟩, st37⟩ := Jvm.LawKit.callS X36 hx (y := (⟨"com/example/topics_into_queries/topicsintoqueries/CodePointsComparePinLaw", "sgn", "(I)I"⟩ : MethodName)) hown16 (mvT hZ16 (own_k hw 42 rfl)) (mvT hZ16 (own_k hw 43 rfl)) (mvT hZ16 (own_k hw 3 rfl)) (mvT hZ16 (own_k hw 44 rfl)) (by decide) (backOf (W := 0) (rmSg l Z a0 hw [] ((own_key y1) - (own_key y2)) T16.heap n0 f21 ) hZ16 (own_k hw 44 rfl) (own_k hw 3 rfl) (by decide) (by decide)) (g := (mkF m 152 #[.val (.int p0), .val (.int p1), .val (.int p2), .val (.int n1), .val (.int n2), .val (.int x1), .val (.int y1), .val (.int x2), .val (.int y2), .val (.ref bb_14), .val (.ref bb_16), .val (.int (own_mn n1 n2)), .unset, .unset] [(.int ((own_key y1) - (own_key y2)))])) rfl (by rw [hml]; rfl) (argsL := [(.int ((own_key y1) - (own_key y2)))]) (rest := []) (lenOf own_pd_6 rfl) rfl (by show 2 * 0 + _ ≤ _; exact Nat.le_of_eq rfl) (hb hby at_152) (fun _ _ => ⟨rfl, eh36, (by decide : 8 + 0 ≤ _), (by decide : 24 + 0 ≤ _)⟩)
                dsimp only [Pt.U, Pt.locs, Pt.cells, Pt.slots] at X37 l37 y37 z37 st37 hQ37
                subst l37
                subst y37 z37
                obtain ⟨Nq37, eh37, hv37⟩ := hQ37
                have N37 := Fr.app N36 Nq37
                subst hv37
                have f39 : Old Z n0 T16.heap := (f17.keep Kq16 all0)
                have f40 : Exa Z T16.heap bb_14 "java/lang/String" := (p14_1.keep Kq16)
                have f41 : Fld Z T16.heap bb_14 "java/lang/String" "coder" "B" (.int cc_14) := (p14_2.keep Kq16 nin0)
                have f42 : Fld Z T16.heap bb_14 "java/lang/String" "value" "[B" (.ref tt_14) := (p14_3.keep Kq16 nin0)
                have f43 : Arv Z T16.heap tt_14 k0_14 .byte ll_14 vv_14 (.int (0 : Int32)) := (p14_4.keep Kq16 nin0)
                obtain ⟨_, _, ⟨T38, L38, k38, n38⟩, -, X38, ⟨Lc38, hQ38, l38, y38, z38⟩, st38⟩ := Jvm.LawKit.callS X37 hx (y := (⟨"com/example/topics_into_queries/topicsintoqueries/CodePoints", "compare", "(Ljava/lang/String;Ljava/lang/String;)I"⟩ : MethodName)) hown16 (mvT hZ16 (own_k hw 45 rfl)) (mvT hZ16 (own_k hw 46 rfl)) (mvT hZ16 (own_k hw 47 rfl)) (mvT hZ16 (own_k hw 48 rfl)) (by decide) (backOf (W := 0) (rmCmp l Z a0 hw [] bb_14 bb_16 cc_14 tt_14 k0_14 ll_14 vv_14 n1 x1 y1 cc_16 tt_16 k0_16 ll_16 vv_16 n2 x2 y2 G1 fv T16.heap n0 f21 hS (hG) hSa hSh hSl hSf (hfr) f39 f40 f41 f42 f43 (p14_5) p16_1 p16_2 p16_3 p16_4 (p16_5) (hj_n1.2.2.1) (hj_n1.2.2.2.1) (hj_x2.1) (hj_x2.2)) hZ16 (own_k hw 48 rfl) (own_k hw 47 rfl) (by decide) (by decide)) (g := (mkF m 173 #[.val (.int p0), .val (.int p1), .val (.int p2), .val (.int n1), .val (.int n2), .val (.int x1), .val (.int y1), .val (.int x2), .val (.int y2), .val (.ref bb_14), .val (.ref bb_16), .val (.int (own_mn n1 n2)), .val (.int (own_sg ((own_key y1) - (own_key y2)))), .unset] [(.ref bb_16), (.ref bb_14)])) rfl (by rw [hml]; rfl) (argsL := [(.ref bb_14), (.ref bb_16)]) (rest := []) (lenOf own_pd_21 rfl) rfl (by show 2 * 0 + _ ≤ _; exact Nat.le_of_eq rfl) (hb hby at_173) (fun _ _ => ⟨rfl, eh37, (by decide : 8 + 0 ≤ _), (by decide : 24 + 0 ≤ _)⟩)
                dsimp only [Pt.U, Pt.locs, Pt.cells, Pt.slots] at X38 l38 y38 z38 st38 hQ38
                subst l38
                subst y38 z38
                obtain ⟨Nq38, eh38, hv38⟩ := hQ38
                have N38 := Fr.app N37 Nq38
                subst hv38
                obtain ⟨_, _, ⟨T44, L44, k44, n44⟩, -, X44, ⟨Lc44, hQ44, l44, y44, z44⟩, st44⟩ := Jvm.LawKit.callS X38 hx (y := (⟨"com/example/topics_into_queries/topicsintoqueries/CodePointsComparePinLaw", "sgn", "(I)I"⟩ : MethodName)) hown16 (mvT hZ16 (own_k hw 42 rfl)) (mvT hZ16 (own_k hw 43 rfl)) (mvT hZ16 (own_k hw 3 rfl)) (mvT hZ16 (own_k hw 44 rfl)) (by decide) (backOf (W := 0) (rmSg l Z a0 hw [] (own_cmp n1 n2 x1 y1 x2 y2) T16.heap n0 f21 ) hZ16 (own_k hw 44 rfl) (own_k hw 3 rfl) (by decide) (by decide)) (g := (mkF m 176 #[.val (.int p0), .val (.int p1), .val (.int p2), .val (.int n1), .val (.int n2), .val (.int x1), .val (.int y1), .val (.int x2), .val (.int y2), .val (.ref bb_14), .val (.ref bb_16), .val (.int (own_mn n1 n2)), .val (.int (own_sg ((own_key y1) - (own_key y2)))), .unset] [(.int (own_cmp n1 n2 x1 y1 x2 y2))])) rfl (by rw [hml]; rfl) (argsL := [(.int (own_cmp n1 n2 x1 y1 x2 y2))]) (rest := []) (lenOf own_pd_6 rfl) rfl (by show 2 * 0 + _ ≤ _; exact Nat.le_of_eq rfl) (hb hby at_176) (fun _ _ => ⟨rfl, eh38, (by decide : 8 + 0 ≤ _), (by decide : 24 + 0 ≤ _)⟩)
                dsimp only [Pt.U, Pt.locs, Pt.cells, Pt.slots] at X44 l44 y44 z44 st44 hQ44
                subst l44
                subst y44 z44
                obtain ⟨Nq44, eh44, hv44⟩ := hQ44
                have N44 := Fr.app N38 Nq44
                subst hv44
                have hRe := R19.trans (CHv.at X44 hZ16 hEL R19.1)
                rw [← eh44] at hRe
                rw [← hh] at hRe
                obtain ⟨fs, hr, hrun, hended, hend⟩ := X44.leaveW hS16 (by rw [eh44]; exact Y16) (v := (some (.int (1 : Int32)))) (fun h => by rw [Bd.returns] at h; cases h)
                refine ⟨_, _, pre32 _ ?_, hrun, hended, _, _, rfl, ?_, hRe, hend.1, hend.2.1, hend.2.2.1, hend.2.2.2.mono (by decide) (by decide)⟩
                · show Steps p.tables e below (T20.setTop (mkF m 138 #[.val (.int p0), .val (.int p1), .val (.int p2), .val (.int n1), .val (.int n2), .val (.int x1), .val (.int y1), .val (.int x2), .val (.int y2), .val (.ref bb_14), .val (.ref bb_16), .val (.int (own_mn n1 n2)), .unset, .unset] [(.int y2), (.int y1)])) _
                  refine XS.icmpNo X20.here hx rfl (hb hby at_138) rfl (feq hcx33).1 ?_
                  show Steps p.tables e below (T20.setTop (mkF m 141 #[.val (.int p0), .val (.int p1), .val (.int p2), .val (.int n1), .val (.int n2), .val (.int x1), .val (.int y1), .val (.int x2), .val (.int y2), .val (.ref bb_14), .val (.ref bb_16), .val (.int (own_mn n1 n2)), .unset, .unset] [])) _
                  refine XS.iload X20.here hx rfl (hb hby at_141) rfl ?_
                  show Steps p.tables e below (T20.setTop (mkF m 143 #[.val (.int p0), .val (.int p1), .val (.int p2), .val (.int n1), .val (.int n2), .val (.int x1), .val (.int y1), .val (.int x2), .val (.int y2), .val (.ref bb_14), .val (.ref bb_16), .val (.int (own_mn n1 n2)), .unset, .unset] [(.int y1)])) _
                  refine st35 _ ?_
                  show Steps p.tables e below (T35.setTop (mkF m 146 #[.val (.int p0), .val (.int p1), .val (.int p2), .val (.int n1), .val (.int n2), .val (.int x1), .val (.int y1), .val (.int x2), .val (.int y2), .val (.ref bb_14), .val (.ref bb_16), .val (.int (own_mn n1 n2)), .unset, .unset] [(.int (own_key y1))])) _
                  refine XS.iload X35.here hx rfl (hb hby at_146) rfl ?_
                  show Steps p.tables e below (T35.setTop (mkF m 148 #[.val (.int p0), .val (.int p1), .val (.int p2), .val (.int n1), .val (.int n2), .val (.int x1), .val (.int y1), .val (.int x2), .val (.int y2), .val (.ref bb_14), .val (.ref bb_16), .val (.int (own_mn n1 n2)), .unset, .unset] [(.int y2), (.int (own_key y1))])) _
                  refine st36 _ ?_
                  show Steps p.tables e below (T36.setTop (mkF m 151 #[.val (.int p0), .val (.int p1), .val (.int p2), .val (.int n1), .val (.int n2), .val (.int x1), .val (.int y1), .val (.int x2), .val (.int y2), .val (.ref bb_14), .val (.ref bb_16), .val (.int (own_mn n1 n2)), .unset, .unset] [(.int (own_key y2)), (.int (own_key y1))])) _
                  refine XS.isub X36.here hx rfl (hb hby at_151) rfl ?_
                  show Steps p.tables e below (T36.setTop (mkF m 152 #[.val (.int p0), .val (.int p1), .val (.int p2), .val (.int n1), .val (.int n2), .val (.int x1), .val (.int y1), .val (.int x2), .val (.int y2), .val (.ref bb_14), .val (.ref bb_16), .val (.int (own_mn n1 n2)), .unset, .unset] [(.int ((own_key y1) - (own_key y2)))])) _
                  refine st37 _ ?_
                  show Steps p.tables e below (T37.setTop (mkF m 155 #[.val (.int p0), .val (.int p1), .val (.int p2), .val (.int n1), .val (.int n2), .val (.int x1), .val (.int y1), .val (.int x2), .val (.int y2), .val (.ref bb_14), .val (.ref bb_16), .val (.int (own_mn n1 n2)), .unset, .unset] [(.int (own_sg ((own_key y1) - (own_key y2))))])) _
                  refine XS.istore X37.here hx rfl (hb hby at_155) rfl (l' := #[.val (.int p0), .val (.int p1), .val (.int p2), .val (.int n1), .val (.int n2), .val (.int x1), .val (.int y1), .val (.int x2), .val (.int y2), .val (.ref bb_14), .val (.ref bb_16), .val (.int (own_mn n1 n2)), .val (.int (own_sg ((own_key y1) - (own_key y2)))), .unset]) rfl ?_
                  show Steps p.tables e below (T37.setTop (mkF m 157 #[.val (.int p0), .val (.int p1), .val (.int p2), .val (.int n1), .val (.int n2), .val (.int x1), .val (.int y1), .val (.int x2), .val (.int y2), .val (.ref bb_14), .val (.ref bb_16), .val (.int (own_mn n1 n2)), .val (.int (own_sg ((own_key y1) - (own_key y2)))), .unset] [])) _
                  refine XS.goto X37.here hx rfl (pc0 := 157) (pc' := 169) rfl (hb hby at_157) (by decide) (by decide) ?_
                  show Steps p.tables e below (T37.setTop (mkF m 169 #[.val (.int p0), .val (.int p1), .val (.int p2), .val (.int n1), .val (.int n2), .val (.int x1), .val (.int y1), .val (.int x2), .val (.int y2), .val (.ref bb_14), .val (.ref bb_16), .val (.int (own_mn n1 n2)), .val (.int (own_sg ((own_key y1) - (own_key y2)))), .unset] [])) _
                  refine XS.aload X37.here hx rfl (hb hby at_169) rfl rfl ?_
                  show Steps p.tables e below (T37.setTop (mkF m 171 #[.val (.int p0), .val (.int p1), .val (.int p2), .val (.int n1), .val (.int n2), .val (.int x1), .val (.int y1), .val (.int x2), .val (.int y2), .val (.ref bb_14), .val (.ref bb_16), .val (.int (own_mn n1 n2)), .val (.int (own_sg ((own_key y1) - (own_key y2)))), .unset] [(.ref bb_14)])) _
                  refine XS.aload X37.here hx rfl (hb hby at_171) rfl rfl ?_
                  show Steps p.tables e below (T37.setTop (mkF m 173 #[.val (.int p0), .val (.int p1), .val (.int p2), .val (.int n1), .val (.int n2), .val (.int x1), .val (.int y1), .val (.int x2), .val (.int y2), .val (.ref bb_14), .val (.ref bb_16), .val (.int (own_mn n1 n2)), .val (.int (own_sg ((own_key y1) - (own_key y2)))), .unset] [(.ref bb_16), (.ref bb_14)])) _
                  refine st38 _ ?_
                  show Steps p.tables e below (T38.setTop (mkF m 176 #[.val (.int p0), .val (.int p1), .val (.int p2), .val (.int n1), .val (.int n2), .val (.int x1), .val (.int y1), .val (.int x2), .val (.int y2), .val (.ref bb_14), .val (.ref bb_16), .val (.int (own_mn n1 n2)), .val (.int (own_sg ((own_key y1) - (own_key y2)))), .unset] [(.int (own_cmp n1 n2 x1 y1 x2 y2))])) _
                  refine st44 _ ?_
                  show Steps p.tables e below (T44.setTop (mkF m 179 #[.val (.int p0), .val (.int p1), .val (.int p2), .val (.int n1), .val (.int n2), .val (.int x1), .val (.int y1), .val (.int x2), .val (.int y2), .val (.ref bb_14), .val (.ref bb_16), .val (.int (own_mn n1 n2)), .val (.int (own_sg ((own_key y1) - (own_key y2)))), .unset] [(.int (own_sg (own_cmp n1 n2 x1 y1 x2 y2)))])) _
                  refine XS.istore X44.here hx rfl (hb hby at_179) rfl (l' := #[.val (.int p0), .val (.int p1), .val (.int p2), .val (.int n1), .val (.int n2), .val (.int x1), .val (.int y1), .val (.int x2), .val (.int y2), .val (.ref bb_14), .val (.ref bb_16), .val (.int (own_mn n1 n2)), .val (.int (own_sg ((own_key y1) - (own_key y2)))), .val (.int (own_sg (own_cmp n1 n2 x1 y1 x2 y2)))]) rfl ?_
                  show Steps p.tables e below (T44.setTop (mkF m 181 #[.val (.int p0), .val (.int p1), .val (.int p2), .val (.int n1), .val (.int n2), .val (.int x1), .val (.int y1), .val (.int x2), .val (.int y2), .val (.ref bb_14), .val (.ref bb_16), .val (.int (own_mn n1 n2)), .val (.int (own_sg ((own_key y1) - (own_key y2)))), .val (.int (own_sg (own_cmp n1 n2 x1 y1 x2 y2)))] [])) _
                  refine XS.iload X44.here hx rfl (hb hby at_181) rfl ?_
                  show Steps p.tables e below (T44.setTop (mkF m 183 #[.val (.int p0), .val (.int p1), .val (.int p2), .val (.int n1), .val (.int n2), .val (.int x1), .val (.int y1), .val (.int x2), .val (.int y2), .val (.ref bb_14), .val (.ref bb_16), .val (.int (own_mn n1 n2)), .val (.int (own_sg ((own_key y1) - (own_key y2)))), .val (.int (own_sg (own_cmp n1 n2 x1 y1 x2 y2)))] [(.int (own_sg (own_cmp n1 n2 x1 y1 x2 y2)))])) _
                  refine XS.iload X44.here hx rfl (hb hby at_183) rfl ?_
                  show Steps p.tables e below (T44.setTop (mkF m 185 #[.val (.int p0), .val (.int p1), .val (.int p2), .val (.int n1), .val (.int n2), .val (.int x1), .val (.int y1), .val (.int x2), .val (.int y2), .val (.ref bb_14), .val (.ref bb_16), .val (.int (own_mn n1 n2)), .val (.int (own_sg ((own_key y1) - (own_key y2)))), .val (.int (own_sg (own_cmp n1 n2 x1 y1 x2 y2)))] [(.int (own_sg ((own_key y1) - (own_key y2)))), (.int (own_sg (own_cmp n1 n2 x1 y1 x2 y2)))])) _
                  refine XS.icmpNo X44.here hx rfl (hb hby at_185) rfl (teq (own_l2 hj_n1.1 hj_n1.2.1 hj_n1.2.2.2.1 hj_x2.2 hcx28 hcx30 hcx33)).2 ?_
                  show Steps p.tables e below (T44.setTop (mkF m 188 #[.val (.int p0), .val (.int p1), .val (.int p2), .val (.int n1), .val (.int n2), .val (.int x1), .val (.int y1), .val (.int x2), .val (.int y2), .val (.ref bb_14), .val (.ref bb_16), .val (.int (own_mn n1 n2)), .val (.int (own_sg ((own_key y1) - (own_key y2)))), .val (.int (own_sg (own_cmp n1 n2 x1 y1 x2 y2)))] [])) _
                  refine XS.iconst X44.here hx rfl (hb hby at_188) ?_
                  show Steps p.tables e below (T44.setTop (mkF m 189 #[.val (.int p0), .val (.int p1), .val (.int p2), .val (.int n1), .val (.int n2), .val (.int x1), .val (.int y1), .val (.int x2), .val (.int y2), .val (.ref bb_14), .val (.ref bb_16), .val (.int (own_mn n1 n2)), .val (.int (own_sg ((own_key y1) - (own_key y2)))), .val (.int (own_sg (own_cmp n1 n2 x1 y1 x2 y2)))] [(.int (1 : Int32))])) _
                  refine XS.goto X44.here hx rfl (pc0 := 189) (pc' := 193) rfl (hb hby at_189) (by decide) (by decide) ?_
                  show Steps p.tables e below (T44.setTop (mkF m 193 #[.val (.int p0), .val (.int p1), .val (.int p2), .val (.int n1), .val (.int n2), .val (.int x1), .val (.int y1), .val (.int x2), .val (.int y2), .val (.ref bb_14), .val (.ref bb_16), .val (.int (own_mn n1 n2)), .val (.int (own_sg ((own_key y1) - (own_key y2)))), .val (.int (own_sg (own_cmp n1 n2 x1 y1 x2 y2)))] [(.int (1 : Int32))])) _
                  exact retN X44 hx (t := .boolean) Bd.returns (by simp) (hb hby at_193) hr
                · show Q0 Z p0 p1 p2 G1 fv h0 n0 _ T44.heap _
                  rw [eh44]
                  exact ⟨N44, rfl⟩
          · skip
            obtain ⟨_, _, ⟨T45, L45, k45, n45⟩, -, X45, ⟨Lc45, hQ45, l45, y45, z45⟩, st45⟩ := Jvm.LawKit.callS X20 hx (y := (⟨"com/example/topics_into_queries/topicsintoqueries/CodePointsComparePinLaw", "key", "(I)I"⟩ : MethodName)) hown16 (mvT hZ16 (own_k hw 83 rfl)) (mvT hZ16 (own_k hw 84 rfl)) (mvT hZ16 (own_k hw 3 rfl)) (mvT hZ16 (own_k hw 85 rfl)) (by decide) (backOf (W := 0) (rmKy l Z a0 hw [] x1 T16.heap n0 f21 ) hZ16 (own_k hw 85 rfl) (own_k hw 3 rfl) (by decide) (by decide)) (g := (mkF m 111 #[.val (.int p0), .val (.int p1), .val (.int p2), .val (.int n1), .val (.int n2), .val (.int x1), .val (.int y1), .val (.int x2), .val (.int y2), .val (.ref bb_14), .val (.ref bb_16), .val (.int (own_mn n1 n2)), .unset, .unset] [(.int x1)])) rfl (by rw [hml]; rfl) (argsL := [(.int x1)]) (rest := []) (lenOf own_pd_6 rfl) rfl (by show 2 * 0 + _ ≤ _; exact Nat.le_of_eq rfl) (hb hby at_111) (fun _ _ => ⟨rfl, eh20, (by decide : 8 + 0 ≤ _), (by decide : 24 + 0 ≤ _)⟩)
            dsimp only [Pt.U, Pt.locs, Pt.cells, Pt.slots] at X45 l45 y45 z45 st45 hQ45
            subst l45
            subst y45 z45
            obtain ⟨Nq45, eh45, hv45⟩ := hQ45
            have N45 := Fr.app N20 Nq45
            subst hv45
            obtain ⟨_, _, ⟨T46, L46, k46, n46⟩, -, X46, ⟨Lc46, hQ46, l46, y46, z46⟩, st46⟩ := Jvm.LawKit.callS X45 hx (y := (⟨"com/example/topics_into_queries/topicsintoqueries/CodePointsComparePinLaw", "key", "(I)I"⟩ : MethodName)) hown16 (mvT hZ16 (own_k hw 83 rfl)) (mvT hZ16 (own_k hw 84 rfl)) (mvT hZ16 (own_k hw 3 rfl)) (mvT hZ16 (own_k hw 85 rfl)) (by decide) (backOf (W := 1) (rmKy l Z a0 hw [] x2 T16.heap n0 f21 ) hZ16 (own_k hw 85 rfl) (own_k hw 3 rfl) (by decide) (by decide)) (g := (mkF m 116 #[.val (.int p0), .val (.int p1), .val (.int p2), .val (.int n1), .val (.int n2), .val (.int x1), .val (.int y1), .val (.int x2), .val (.int y2), .val (.ref bb_14), .val (.ref bb_16), .val (.int (own_mn n1 n2)), .unset, .unset] [(.int x2), (.int (own_key x1))])) rfl (by rw [hml]; rfl) (argsL := [(.int x2)]) (rest := [(.int (own_key x1))]) (lenOf own_pd_6 rfl) rfl (by show 2 * 0 + _ ≤ _; exact Nat.le_of_eq rfl) (hb hby at_116) (fun _ _ => ⟨rfl, eh45, (by decide : 8 + 0 ≤ _), (by decide : 24 + 0 ≤ _)⟩)
            dsimp only [Pt.U, Pt.locs, Pt.cells, Pt.slots] at X46 l46 y46 z46 st46 hQ46
            subst l46
            subst y46 z46
            obtain ⟨Nq46, eh46, hv46⟩ := hQ46
            have N46 := Fr.app N45 Nq46
            subst hv46
            obtain ⟨_, _, ⟨T47, L47, k47, n47⟩, -, X47, ⟨Lc47, hQ47, l47, y47, z47⟩, st47⟩ := Jvm.LawKit.callS X46 hx (y := (⟨"com/example/topics_into_queries/topicsintoqueries/CodePointsComparePinLaw", "sgn", "(I)I"⟩ : MethodName)) hown16 (mvT hZ16 (own_k hw 42 rfl)) (mvT hZ16 (own_k hw 43 rfl)) (mvT hZ16 (own_k hw 3 rfl)) (mvT hZ16 (own_k hw 44 rfl)) (by decide) (backOf (W := 0) (rmSg l Z a0 hw [] ((own_key x1) - (own_key x2)) T16.heap n0 f21 ) hZ16 (own_k hw 44 rfl) (own_k hw 3 rfl) (by decide) (by decide)) (g := (mkF m 120 #[.val (.int p0), .val (.int p1), .val (.int p2), .val (.int n1), .val (.int n2), .val (.int x1), .val (.int y1), .val (.int x2), .val (.int y2), .val (.ref bb_14), .val (.ref bb_16), .val (.int (own_mn n1 n2)), .unset, .unset] [(.int ((own_key x1) - (own_key x2)))])) rfl (by rw [hml]; rfl) (argsL := [(.int ((own_key x1) - (own_key x2)))]) (rest := []) (lenOf own_pd_6 rfl) rfl (by show 2 * 0 + _ ≤ _; exact Nat.le_of_eq rfl) (hb hby at_120) (fun _ _ => ⟨rfl, eh46, (by decide : 8 + 0 ≤ _), (by decide : 24 + 0 ≤ _)⟩)
            dsimp only [Pt.U, Pt.locs, Pt.cells, Pt.slots] at X47 l47 y47 z47 st47 hQ47
            subst l47
            subst y47 z47
            obtain ⟨Nq47, eh47, hv47⟩ := hQ47
            have N47 := Fr.app N46 Nq47
            subst hv47
            have f49 : Old Z n0 T16.heap := (f17.keep Kq16 all0)
            have f50 : Exa Z T16.heap bb_14 "java/lang/String" := (p14_1.keep Kq16)
            have f51 : Fld Z T16.heap bb_14 "java/lang/String" "coder" "B" (.int cc_14) := (p14_2.keep Kq16 nin0)
            have f52 : Fld Z T16.heap bb_14 "java/lang/String" "value" "[B" (.ref tt_14) := (p14_3.keep Kq16 nin0)
            have f53 : Arv Z T16.heap tt_14 k0_14 .byte ll_14 vv_14 (.int (0 : Int32)) := (p14_4.keep Kq16 nin0)
            obtain ⟨_, _, ⟨T48, L48, k48, n48⟩, -, X48, ⟨Lc48, hQ48, l48, y48, z48⟩, st48⟩ := Jvm.LawKit.callS X47 hx (y := (⟨"com/example/topics_into_queries/topicsintoqueries/CodePoints", "compare", "(Ljava/lang/String;Ljava/lang/String;)I"⟩ : MethodName)) hown16 (mvT hZ16 (own_k hw 45 rfl)) (mvT hZ16 (own_k hw 46 rfl)) (mvT hZ16 (own_k hw 47 rfl)) (mvT hZ16 (own_k hw 48 rfl)) (by decide) (backOf (W := 0) (rmCmp l Z a0 hw [] bb_14 bb_16 cc_14 tt_14 k0_14 ll_14 vv_14 n1 x1 y1 cc_16 tt_16 k0_16 ll_16 vv_16 n2 x2 y2 G1 fv T16.heap n0 f21 hS (hG) hSa hSh hSl hSf (hfr) f49 f50 f51 f52 f53 (p14_5) p16_1 p16_2 p16_3 p16_4 (p16_5) (hj_n1.2.2.1) (hj_n1.2.2.2.1) (hj_x2.1) (hj_x2.2)) hZ16 (own_k hw 48 rfl) (own_k hw 47 rfl) (by decide) (by decide)) (g := (mkF m 173 #[.val (.int p0), .val (.int p1), .val (.int p2), .val (.int n1), .val (.int n2), .val (.int x1), .val (.int y1), .val (.int x2), .val (.int y2), .val (.ref bb_14), .val (.ref bb_16), .val (.int (own_mn n1 n2)), .val (.int (own_sg ((own_key x1) - (own_key x2)))), .unset] [(.ref bb_16), (.ref bb_14)])) rfl (by rw [hml]; rfl) (argsL := [(.ref bb_14), (.ref bb_16)]) (rest := []) (lenOf own_pd_21 rfl) rfl (by show 2 * 0 + _ ≤ _; exact Nat.le_of_eq rfl) (hb hby at_173) (fun _ _ => ⟨rfl, eh47, (by decide : 8 + 0 ≤ _), (by decide : 24 + 0 ≤ _)⟩)
            dsimp only [Pt.U, Pt.locs, Pt.cells, Pt.slots] at X48 l48 y48 z48 st48 hQ48
            subst l48
            subst y48 z48
            obtain ⟨Nq48, eh48, hv48⟩ := hQ48
            have N48 := Fr.app N47 Nq48
            subst hv48
            obtain ⟨_, _, ⟨T54, L54, k54, n54⟩, -, X54, ⟨Lc54, hQ54, l54, y54, z54⟩, st54⟩ := Jvm.LawKit.callS X48 hx (y := (⟨"com/example/topics_into_queries/topicsintoqueries/CodePointsComparePinLaw", "sgn", "(I)I"⟩ : MethodName)) hown16 (mvT hZ16 (own_k hw 42 rfl)) (mvT hZ16 (own_k hw 43 rfl)) (mvT hZ16 (own_k hw 3 rfl)) (mvT hZ16 (own_k hw 44 rfl)) (by decide) (backOf (W := 0) (rmSg l Z a0 hw [] (own_cmp n1 n2 x1 y1 x2 y2) T16.heap n0 f21 ) hZ16 (own_k hw 44 rfl) (own_k hw 3 rfl) (by decide) (by decide)) (g := (mkF m 176 #[.val (.int p0), .val (.int p1), .val (.int p2), .val (.int n1), .val (.int n2), .val (.int x1), .val (.int y1), .val (.int x2), .val (.int y2), .val (.ref bb_14), .val (.ref bb_16), .val (.int (own_mn n1 n2)), .val (.int (own_sg ((own_key x1) - (own_key x2)))), .unset] [(.int (own_cmp n1 n2 x1 y1 x2 y2))])) rfl (by rw [hml]; rfl) (argsL := [(.int (own_cmp n1 n2 x1 y1 x2 y2))]) (rest := []) (lenOf own_pd_6 rfl) rfl (by show 2 * 0 + _ ≤ _; exact Nat.le_of_eq rfl) (hb hby at_176) (fun _ _ => ⟨rfl, eh48, (by decide : 8 + 0 ≤ _), (by decide : 24 + 0 ≤ _)⟩)
            dsimp only [Pt.U, Pt.locs, Pt.cells, Pt.slots] at X54 l54 y54 z54 st54 hQ54
            subst l54
            subst y54 z54
            obtain ⟨Nq54, eh54, hv54⟩ := hQ54
            have N54 := Fr.app N48 Nq54
            subst hv54
            have hRe := R19.trans (CHv.at X54 hZ16 hEL R19.1)
            rw [← eh54] at hRe
            rw [← hh] at hRe
            obtain ⟨fs, hr, hrun, hended, hend⟩ := X54.leaveW hS16 (by rw [eh54]; exact Y16) (v := (some (.int (1 : Int32)))) (fun h => by rw [Bd.returns] at h; cases h)
            refine ⟨_, _, pre27 _ ?_, hrun, hended, _, _, rfl, ?_, hRe, hend.1, hend.2.1, hend.2.2.1, hend.2.2.2.mono (by decide) (by decide)⟩
            · show Steps p.tables e below (T20.setTop (mkF m 106 #[.val (.int p0), .val (.int p1), .val (.int p2), .val (.int n1), .val (.int n2), .val (.int x1), .val (.int y1), .val (.int x2), .val (.int y2), .val (.ref bb_14), .val (.ref bb_16), .val (.int (own_mn n1 n2)), .unset, .unset] [(.int x2), (.int x1)])) _
              refine XS.icmpNo X20.here hx rfl (hb hby at_106) rfl (feq hcx28).1 ?_
              show Steps p.tables e below (T20.setTop (mkF m 109 #[.val (.int p0), .val (.int p1), .val (.int p2), .val (.int n1), .val (.int n2), .val (.int x1), .val (.int y1), .val (.int x2), .val (.int y2), .val (.ref bb_14), .val (.ref bb_16), .val (.int (own_mn n1 n2)), .unset, .unset] [])) _
              refine XS.iload X20.here hx rfl (hb hby at_109) rfl ?_
              show Steps p.tables e below (T20.setTop (mkF m 111 #[.val (.int p0), .val (.int p1), .val (.int p2), .val (.int n1), .val (.int n2), .val (.int x1), .val (.int y1), .val (.int x2), .val (.int y2), .val (.ref bb_14), .val (.ref bb_16), .val (.int (own_mn n1 n2)), .unset, .unset] [(.int x1)])) _
              refine st45 _ ?_
              show Steps p.tables e below (T45.setTop (mkF m 114 #[.val (.int p0), .val (.int p1), .val (.int p2), .val (.int n1), .val (.int n2), .val (.int x1), .val (.int y1), .val (.int x2), .val (.int y2), .val (.ref bb_14), .val (.ref bb_16), .val (.int (own_mn n1 n2)), .unset, .unset] [(.int (own_key x1))])) _
              refine XS.iload X45.here hx rfl (hb hby at_114) rfl ?_
              show Steps p.tables e below (T45.setTop (mkF m 116 #[.val (.int p0), .val (.int p1), .val (.int p2), .val (.int n1), .val (.int n2), .val (.int x1), .val (.int y1), .val (.int x2), .val (.int y2), .val (.ref bb_14), .val (.ref bb_16), .val (.int (own_mn n1 n2)), .unset, .unset] [(.int x2), (.int (own_key x1))])) _
              refine st46 _ ?_
              show Steps p.tables e below (T46.setTop (mkF m 119 #[.val (.int p0), .val (.int p1), .val (.int p2), .val (.int n1), .val (.int n2), .val (.int x1), .val (.int y1), .val (.int x2), .val (.int y2), .val (.ref bb_14), .val (.ref bb_16), .val (.int (own_mn n1 n2)), .unset, .unset] [(.int (own_key x2)), (.int (own_key x1))])) _
              refine XS.isub X46.here hx rfl (hb hby at_119) rfl ?_
              show Steps p.tables e below (T46.setTop (mkF m 120 #[.val (.int p0), .val (.int p1), .val (.int p2), .val (.int n1), .val (.int n2), .val (.int x1), .val (.int y1), .val (.int x2), .val (.int y2), .val (.ref bb_14), .val (.ref bb_16), .val (.int (own_mn n1 n2)), .unset, .unset] [(.int ((own_key x1) - (own_key x2)))])) _
              refine st47 _ ?_
              show Steps p.tables e below (T47.setTop (mkF m 123 #[.val (.int p0), .val (.int p1), .val (.int p2), .val (.int n1), .val (.int n2), .val (.int x1), .val (.int y1), .val (.int x2), .val (.int y2), .val (.ref bb_14), .val (.ref bb_16), .val (.int (own_mn n1 n2)), .unset, .unset] [(.int (own_sg ((own_key x1) - (own_key x2))))])) _
              refine XS.istore X47.here hx rfl (hb hby at_123) rfl (l' := #[.val (.int p0), .val (.int p1), .val (.int p2), .val (.int n1), .val (.int n2), .val (.int x1), .val (.int y1), .val (.int x2), .val (.int y2), .val (.ref bb_14), .val (.ref bb_16), .val (.int (own_mn n1 n2)), .val (.int (own_sg ((own_key x1) - (own_key x2)))), .unset]) rfl ?_
              show Steps p.tables e below (T47.setTop (mkF m 125 #[.val (.int p0), .val (.int p1), .val (.int p2), .val (.int n1), .val (.int n2), .val (.int x1), .val (.int y1), .val (.int x2), .val (.int y2), .val (.ref bb_14), .val (.ref bb_16), .val (.int (own_mn n1 n2)), .val (.int (own_sg ((own_key x1) - (own_key x2)))), .unset] [])) _
              refine XS.goto X47.here hx rfl (pc0 := 125) (pc' := 169) rfl (hb hby at_125) (by decide) (by decide) ?_
              show Steps p.tables e below (T47.setTop (mkF m 169 #[.val (.int p0), .val (.int p1), .val (.int p2), .val (.int n1), .val (.int n2), .val (.int x1), .val (.int y1), .val (.int x2), .val (.int y2), .val (.ref bb_14), .val (.ref bb_16), .val (.int (own_mn n1 n2)), .val (.int (own_sg ((own_key x1) - (own_key x2)))), .unset] [])) _
              refine XS.aload X47.here hx rfl (hb hby at_169) rfl rfl ?_
              show Steps p.tables e below (T47.setTop (mkF m 171 #[.val (.int p0), .val (.int p1), .val (.int p2), .val (.int n1), .val (.int n2), .val (.int x1), .val (.int y1), .val (.int x2), .val (.int y2), .val (.ref bb_14), .val (.ref bb_16), .val (.int (own_mn n1 n2)), .val (.int (own_sg ((own_key x1) - (own_key x2)))), .unset] [(.ref bb_14)])) _
              refine XS.aload X47.here hx rfl (hb hby at_171) rfl rfl ?_
              show Steps p.tables e below (T47.setTop (mkF m 173 #[.val (.int p0), .val (.int p1), .val (.int p2), .val (.int n1), .val (.int n2), .val (.int x1), .val (.int y1), .val (.int x2), .val (.int y2), .val (.ref bb_14), .val (.ref bb_16), .val (.int (own_mn n1 n2)), .val (.int (own_sg ((own_key x1) - (own_key x2)))), .unset] [(.ref bb_16), (.ref bb_14)])) _
              refine st48 _ ?_
              show Steps p.tables e below (T48.setTop (mkF m 176 #[.val (.int p0), .val (.int p1), .val (.int p2), .val (.int n1), .val (.int n2), .val (.int x1), .val (.int y1), .val (.int x2), .val (.int y2), .val (.ref bb_14), .val (.ref bb_16), .val (.int (own_mn n1 n2)), .val (.int (own_sg ((own_key x1) - (own_key x2)))), .unset] [(.int (own_cmp n1 n2 x1 y1 x2 y2))])) _
              refine st54 _ ?_
              show Steps p.tables e below (T54.setTop (mkF m 179 #[.val (.int p0), .val (.int p1), .val (.int p2), .val (.int n1), .val (.int n2), .val (.int x1), .val (.int y1), .val (.int x2), .val (.int y2), .val (.ref bb_14), .val (.ref bb_16), .val (.int (own_mn n1 n2)), .val (.int (own_sg ((own_key x1) - (own_key x2)))), .unset] [(.int (own_sg (own_cmp n1 n2 x1 y1 x2 y2)))])) _
              refine XS.istore X54.here hx rfl (hb hby at_179) rfl (l' := #[.val (.int p0), .val (.int p1), .val (.int p2), .val (.int n1), .val (.int n2), .val (.int x1), .val (.int y1), .val (.int x2), .val (.int y2), .val (.ref bb_14), .val (.ref bb_16), .val (.int (own_mn n1 n2)), .val (.int (own_sg ((own_key x1) - (own_key x2)))), .val (.int (own_sg (own_cmp n1 n2 x1 y1 x2 y2)))]) rfl ?_
              show Steps p.tables e below (T54.setTop (mkF m 181 #[.val (.int p0), .val (.int p1), .val (.int p2), .val (.int n1), .val (.int n2), .val (.int x1), .val (.int y1), .val (.int x2), .val (.int y2), .val (.ref bb_14), .val (.ref bb_16), .val (.int (own_mn n1 n2)), .val (.int (own_sg ((own_key x1) - (own_key x2)))), .val (.int (own_sg (own_cmp n1 n2 x1 y1 x2 y2)))] [])) _
              refine XS.iload X54.here hx rfl (hb hby at_181) rfl ?_
              show Steps p.tables e below (T54.setTop (mkF m 183 #[.val (.int p0), .val (.int p1), .val (.int p2), .val (.int n1), .val (.int n2), .val (.int x1), .val (.int y1), .val (.int x2), .val (.int y2), .val (.ref bb_14), .val (.ref bb_16), .val (.int (own_mn n1 n2)), .val (.int (own_sg ((own_key x1) - (own_key x2)))), .val (.int (own_sg (own_cmp n1 n2 x1 y1 x2 y2)))] [(.int (own_sg (own_cmp n1 n2 x1 y1 x2 y2)))])) _
              refine XS.iload X54.here hx rfl (hb hby at_183) rfl ?_
              show Steps p.tables e below (T54.setTop (mkF m 185 #[.val (.int p0), .val (.int p1), .val (.int p2), .val (.int n1), .val (.int n2), .val (.int x1), .val (.int y1), .val (.int x2), .val (.int y2), .val (.ref bb_14), .val (.ref bb_16), .val (.int (own_mn n1 n2)), .val (.int (own_sg ((own_key x1) - (own_key x2)))), .val (.int (own_sg (own_cmp n1 n2 x1 y1 x2 y2)))] [(.int (own_sg ((own_key x1) - (own_key x2)))), (.int (own_sg (own_cmp n1 n2 x1 y1 x2 y2)))])) _
              refine XS.icmpNo X54.here hx rfl (hb hby at_185) rfl (teq (own_l1 hj_n1.1 hj_n1.2.1 hj_n1.2.2.1 hj_x2.1 hcx25 hcx28)).2 ?_
              show Steps p.tables e below (T54.setTop (mkF m 188 #[.val (.int p0), .val (.int p1), .val (.int p2), .val (.int n1), .val (.int n2), .val (.int x1), .val (.int y1), .val (.int x2), .val (.int y2), .val (.ref bb_14), .val (.ref bb_16), .val (.int (own_mn n1 n2)), .val (.int (own_sg ((own_key x1) - (own_key x2)))), .val (.int (own_sg (own_cmp n1 n2 x1 y1 x2 y2)))] [])) _
              refine XS.iconst X54.here hx rfl (hb hby at_188) ?_
              show Steps p.tables e below (T54.setTop (mkF m 189 #[.val (.int p0), .val (.int p1), .val (.int p2), .val (.int n1), .val (.int n2), .val (.int x1), .val (.int y1), .val (.int x2), .val (.int y2), .val (.ref bb_14), .val (.ref bb_16), .val (.int (own_mn n1 n2)), .val (.int (own_sg ((own_key x1) - (own_key x2)))), .val (.int (own_sg (own_cmp n1 n2 x1 y1 x2 y2)))] [(.int (1 : Int32))])) _
              refine XS.goto X54.here hx rfl (pc0 := 189) (pc' := 193) rfl (hb hby at_189) (by decide) (by decide) ?_
              show Steps p.tables e below (T54.setTop (mkF m 193 #[.val (.int p0), .val (.int p1), .val (.int p2), .val (.int n1), .val (.int n2), .val (.int x1), .val (.int y1), .val (.int x2), .val (.int y2), .val (.ref bb_14), .val (.ref bb_16), .val (.int (own_mn n1 n2)), .val (.int (own_sg ((own_key x1) - (own_key x2)))), .val (.int (own_sg (own_cmp n1 n2 x1 y1 x2 y2)))] [(.int (1 : Int32))])) _
              exact retN X54 hx (t := .boolean) Bd.returns (by simp) (hb hby at_193) hr
            · show Q0 Z p0 p1 p2 G1 fv h0 n0 _ T54.heap _
              rw [eh54]
              exact ⟨N54, rfl⟩
      · rintro ⟨cm, hj_cm, preJ23⟩
        obtain ⟨_, _, ⟨T55, L55, k55, n55⟩, -, X55, ⟨Lc55, hQ55, l55, y55, z55⟩, st55⟩ := Jvm.LawKit.callS X20 hx (y := (⟨"com/example/topics_into_queries/topicsintoqueries/CodePointsComparePinLaw", "sgn", "(I)I"⟩ : MethodName)) hown16 (mvT hZ16 (own_k hw 42 rfl)) (mvT hZ16 (own_k hw 43 rfl)) (mvT hZ16 (own_k hw 3 rfl)) (mvT hZ16 (own_k hw 44 rfl)) (by decide) (backOf (W := 0) (rmSg l Z a0 hw [] (n1 - n2) T16.heap n0 f21 ) hZ16 (own_k hw 44 rfl) (own_k hw 3 rfl) (by decide) (by decide)) (g := (mkF m 164 #[.val (.int p0), .val (.int p1), .val (.int p2), .val (.int n1), .val (.int n2), .val (.int x1), .val (.int y1), .val (.int x2), .val (.int y2), .val (.ref bb_14), .val (.ref bb_16), .val (.int cm), .unset, .unset] [(.int (n1 - n2))])) rfl (by rw [hml]; rfl) (argsL := [(.int (n1 - n2))]) (rest := []) (lenOf own_pd_6 rfl) rfl (by show 2 * 0 + _ ≤ _; exact Nat.le_of_eq rfl) (hb hby at_164) (fun _ _ => ⟨rfl, eh20, (by decide : 8 + 0 ≤ _), (by decide : 24 + 0 ≤ _)⟩)
        dsimp only [Pt.U, Pt.locs, Pt.cells, Pt.slots] at X55 l55 y55 z55 st55 hQ55
        subst l55
        subst y55 z55
        obtain ⟨Nq55, eh55, hv55⟩ := hQ55
        have N55 := Fr.app N20 Nq55
        subst hv55
        have f57 : Old Z n0 T16.heap := (f17.keep Kq16 all0)
        have f58 : Exa Z T16.heap bb_14 "java/lang/String" := (p14_1.keep Kq16)
        have f59 : Fld Z T16.heap bb_14 "java/lang/String" "coder" "B" (.int cc_14) := (p14_2.keep Kq16 nin0)
        have f60 : Fld Z T16.heap bb_14 "java/lang/String" "value" "[B" (.ref tt_14) := (p14_3.keep Kq16 nin0)
        have f61 : Arv Z T16.heap tt_14 k0_14 .byte ll_14 vv_14 (.int (0 : Int32)) := (p14_4.keep Kq16 nin0)
        obtain ⟨_, _, ⟨T56, L56, k56, n56⟩, -, X56, ⟨Lc56, hQ56, l56, y56, z56⟩, st56⟩ := Jvm.LawKit.callS X55 hx (y := (⟨"com/example/topics_into_queries/topicsintoqueries/CodePoints", "compare", "(Ljava/lang/String;Ljava/lang/String;)I"⟩ : MethodName)) hown16 (mvT hZ16 (own_k hw 45 rfl)) (mvT hZ16 (own_k hw 46 rfl)) (mvT hZ16 (own_k hw 47 rfl)) (mvT hZ16 (own_k hw 48 rfl)) (by decide) (backOf (W := 0) (rmCmp l Z a0 hw [] bb_14 bb_16 cc_14 tt_14 k0_14 ll_14 vv_14 n1 x1 y1 cc_16 tt_16 k0_16 ll_16 vv_16 n2 x2 y2 G1 fv T16.heap n0 f21 hS (hG) hSa hSh hSl hSf (hfr) f57 f58 f59 f60 f61 (p14_5) p16_1 p16_2 p16_3 p16_4 (p16_5) (hj_n1.2.2.1) (hj_n1.2.2.2.1) (hj_x2.1) (hj_x2.2)) hZ16 (own_k hw 48 rfl) (own_k hw 47 rfl) (by decide) (by decide)) (g := (mkF m 173 #[.val (.int p0), .val (.int p1), .val (.int p2), .val (.int n1), .val (.int n2), .val (.int x1), .val (.int y1), .val (.int x2), .val (.int y2), .val (.ref bb_14), .val (.ref bb_16), .val (.int cm), .val (.int (own_sg (n1 - n2))), .unset] [(.ref bb_16), (.ref bb_14)])) rfl (by rw [hml]; rfl) (argsL := [(.ref bb_14), (.ref bb_16)]) (rest := []) (lenOf own_pd_21 rfl) rfl (by show 2 * 0 + _ ≤ _; exact Nat.le_of_eq rfl) (hb hby at_173) (fun _ _ => ⟨rfl, eh55, (by decide : 8 + 0 ≤ _), (by decide : 24 + 0 ≤ _)⟩)
        dsimp only [Pt.U, Pt.locs, Pt.cells, Pt.slots] at X56 l56 y56 z56 st56 hQ56
        subst l56
        subst y56 z56
        obtain ⟨Nq56, eh56, hv56⟩ := hQ56
        have N56 := Fr.app N55 Nq56
        subst hv56
        obtain ⟨_, _, ⟨T62, L62, k62, n62⟩, -, X62, ⟨Lc62, hQ62, l62, y62, z62⟩, st62⟩ := Jvm.LawKit.callS X56 hx (y := (⟨"com/example/topics_into_queries/topicsintoqueries/CodePointsComparePinLaw", "sgn", "(I)I"⟩ : MethodName)) hown16 (mvT hZ16 (own_k hw 42 rfl)) (mvT hZ16 (own_k hw 43 rfl)) (mvT hZ16 (own_k hw 3 rfl)) (mvT hZ16 (own_k hw 44 rfl)) (by decide) (backOf (W := 0) (rmSg l Z a0 hw [] (own_cmp n1 n2 x1 y1 x2 y2) T16.heap n0 f21 ) hZ16 (own_k hw 44 rfl) (own_k hw 3 rfl) (by decide) (by decide)) (g := (mkF m 176 #[.val (.int p0), .val (.int p1), .val (.int p2), .val (.int n1), .val (.int n2), .val (.int x1), .val (.int y1), .val (.int x2), .val (.int y2), .val (.ref bb_14), .val (.ref bb_16), .val (.int cm), .val (.int (own_sg (n1 - n2))), .unset] [(.int (own_cmp n1 n2 x1 y1 x2 y2))])) rfl (by rw [hml]; rfl) (argsL := [(.int (own_cmp n1 n2 x1 y1 x2 y2))]) (rest := []) (lenOf own_pd_6 rfl) rfl (by show 2 * 0 + _ ≤ _; exact Nat.le_of_eq rfl) (hb hby at_176) (fun _ _ => ⟨rfl, eh56, (by decide : 8 + 0 ≤ _), (by decide : 24 + 0 ≤ _)⟩)
        dsimp only [Pt.U, Pt.locs, Pt.cells, Pt.slots] at X62 l62 y62 z62 st62 hQ62
        subst l62
        subst y62 z62
        obtain ⟨Nq62, eh62, hv62⟩ := hQ62
        have N62 := Fr.app N56 Nq62
        subst hv62
        have hRe := R19.trans (CHv.at X62 hZ16 hEL R19.1)
        rw [← eh62] at hRe
        rw [← hh] at hRe
        obtain ⟨fs, hr, hrun, hended, hend⟩ := X62.leaveW hS16 (by rw [eh62]; exact Y16) (v := (some (.int (1 : Int32)))) (fun h => by rw [Bd.returns] at h; cases h)
        refine ⟨_, _, preJ23 _ ?_, hrun, hended, _, _, rfl, ?_, hRe, hend.1, hend.2.1, hend.2.2.1, hend.2.2.2.mono (by decide) (by decide)⟩
        · show Steps p.tables e below (T20.setTop (mkF m 160 #[.val (.int p0), .val (.int p1), .val (.int p2), .val (.int n1), .val (.int n2), .val (.int x1), .val (.int y1), .val (.int x2), .val (.int y2), .val (.ref bb_14), .val (.ref bb_16), .val (.int cm), .unset, .unset] [])) _
          refine XS.iloadN X20.here hx rfl (hb hby at_160) rfl ?_
          show Steps p.tables e below (T20.setTop (mkF m 161 #[.val (.int p0), .val (.int p1), .val (.int p2), .val (.int n1), .val (.int n2), .val (.int x1), .val (.int y1), .val (.int x2), .val (.int y2), .val (.ref bb_14), .val (.ref bb_16), .val (.int cm), .unset, .unset] [(.int n1)])) _
          refine XS.iload X20.here hx rfl (hb hby at_161) rfl ?_
          show Steps p.tables e below (T20.setTop (mkF m 163 #[.val (.int p0), .val (.int p1), .val (.int p2), .val (.int n1), .val (.int n2), .val (.int x1), .val (.int y1), .val (.int x2), .val (.int y2), .val (.ref bb_14), .val (.ref bb_16), .val (.int cm), .unset, .unset] [(.int n2), (.int n1)])) _
          refine XS.isub X20.here hx rfl (hb hby at_163) rfl ?_
          show Steps p.tables e below (T20.setTop (mkF m 164 #[.val (.int p0), .val (.int p1), .val (.int p2), .val (.int n1), .val (.int n2), .val (.int x1), .val (.int y1), .val (.int x2), .val (.int y2), .val (.ref bb_14), .val (.ref bb_16), .val (.int cm), .unset, .unset] [(.int (n1 - n2))])) _
          refine st55 _ ?_
          show Steps p.tables e below (T55.setTop (mkF m 167 #[.val (.int p0), .val (.int p1), .val (.int p2), .val (.int n1), .val (.int n2), .val (.int x1), .val (.int y1), .val (.int x2), .val (.int y2), .val (.ref bb_14), .val (.ref bb_16), .val (.int cm), .unset, .unset] [(.int (own_sg (n1 - n2)))])) _
          refine XS.istore X55.here hx rfl (hb hby at_167) rfl (l' := #[.val (.int p0), .val (.int p1), .val (.int p2), .val (.int n1), .val (.int n2), .val (.int x1), .val (.int y1), .val (.int x2), .val (.int y2), .val (.ref bb_14), .val (.ref bb_16), .val (.int cm), .val (.int (own_sg (n1 - n2))), .unset]) rfl ?_
          show Steps p.tables e below (T55.setTop (mkF m 169 #[.val (.int p0), .val (.int p1), .val (.int p2), .val (.int n1), .val (.int n2), .val (.int x1), .val (.int y1), .val (.int x2), .val (.int y2), .val (.ref bb_14), .val (.ref bb_16), .val (.int cm), .val (.int (own_sg (n1 - n2))), .unset] [])) _
          refine XS.aload X55.here hx rfl (hb hby at_169) rfl rfl ?_
          show Steps p.tables e below (T55.setTop (mkF m 171 #[.val (.int p0), .val (.int p1), .val (.int p2), .val (.int n1), .val (.int n2), .val (.int x1), .val (.int y1), .val (.int x2), .val (.int y2), .val (.ref bb_14), .val (.ref bb_16), .val (.int cm), .val (.int (own_sg (n1 - n2))), .unset] [(.ref bb_14)])) _
          refine XS.aload X55.here hx rfl (hb hby at_171) rfl rfl ?_
          show Steps p.tables e below (T55.setTop (mkF m 173 #[.val (.int p0), .val (.int p1), .val (.int p2), .val (.int n1), .val (.int n2), .val (.int x1), .val (.int y1), .val (.int x2), .val (.int y2), .val (.ref bb_14), .val (.ref bb_16), .val (.int cm), .val (.int (own_sg (n1 - n2))), .unset] [(.ref bb_16), (.ref bb_14)])) _
          refine st56 _ ?_
          show Steps p.tables e below (T56.setTop (mkF m 176 #[.val (.int p0), .val (.int p1), .val (.int p2), .val (.int n1), .val (.int n2), .val (.int x1), .val (.int y1), .val (.int x2), .val (.int y2), .val (.ref bb_14), .val (.ref bb_16), .val (.int cm), .val (.int (own_sg (n1 - n2))), .unset] [(.int (own_cmp n1 n2 x1 y1 x2 y2))])) _
          refine st62 _ ?_
          show Steps p.tables e below (T62.setTop (mkF m 179 #[.val (.int p0), .val (.int p1), .val (.int p2), .val (.int n1), .val (.int n2), .val (.int x1), .val (.int y1), .val (.int x2), .val (.int y2), .val (.ref bb_14), .val (.ref bb_16), .val (.int cm), .val (.int (own_sg (n1 - n2))), .unset] [(.int (own_sg (own_cmp n1 n2 x1 y1 x2 y2)))])) _
          refine XS.istore X62.here hx rfl (hb hby at_179) rfl (l' := #[.val (.int p0), .val (.int p1), .val (.int p2), .val (.int n1), .val (.int n2), .val (.int x1), .val (.int y1), .val (.int x2), .val (.int y2), .val (.ref bb_14), .val (.ref bb_16), .val (.int cm), .val (.int (own_sg (n1 - n2))), .val (.int (own_sg (own_cmp n1 n2 x1 y1 x2 y2)))]) rfl ?_
          show Steps p.tables e below (T62.setTop (mkF m 181 #[.val (.int p0), .val (.int p1), .val (.int p2), .val (.int n1), .val (.int n2), .val (.int x1), .val (.int y1), .val (.int x2), .val (.int y2), .val (.ref bb_14), .val (.ref bb_16), .val (.int cm), .val (.int (own_sg (n1 - n2))), .val (.int (own_sg (own_cmp n1 n2 x1 y1 x2 y2)))] [])) _
          refine XS.iload X62.here hx rfl (hb hby at_181) rfl ?_
          show Steps p.tables e below (T62.setTop (mkF m 183 #[.val (.int p0), .val (.int p1), .val (.int p2), .val (.int n1), .val (.int n2), .val (.int x1), .val (.int y1), .val (.int x2), .val (.int y2), .val (.ref bb_14), .val (.ref bb_16), .val (.int cm), .val (.int (own_sg (n1 - n2))), .val (.int (own_sg (own_cmp n1 n2 x1 y1 x2 y2)))] [(.int (own_sg (own_cmp n1 n2 x1 y1 x2 y2)))])) _
          refine XS.iload X62.here hx rfl (hb hby at_183) rfl ?_
          show Steps p.tables e below (T62.setTop (mkF m 185 #[.val (.int p0), .val (.int p1), .val (.int p2), .val (.int n1), .val (.int n2), .val (.int x1), .val (.int y1), .val (.int x2), .val (.int y2), .val (.ref bb_14), .val (.ref bb_16), .val (.int cm), .val (.int (own_sg (n1 - n2))), .val (.int (own_sg (own_cmp n1 n2 x1 y1 x2 y2)))] [(.int (own_sg (n1 - n2))), (.int (own_sg (own_cmp n1 n2 x1 y1 x2 y2)))])) _
          refine XS.icmpNo X62.here hx rfl (hb hby at_185) rfl (teq (own_l3 hj_n1.1 hj_n1.2.1 hj_cm.1 hj_cm.2)).2 ?_
          show Steps p.tables e below (T62.setTop (mkF m 188 #[.val (.int p0), .val (.int p1), .val (.int p2), .val (.int n1), .val (.int n2), .val (.int x1), .val (.int y1), .val (.int x2), .val (.int y2), .val (.ref bb_14), .val (.ref bb_16), .val (.int cm), .val (.int (own_sg (n1 - n2))), .val (.int (own_sg (own_cmp n1 n2 x1 y1 x2 y2)))] [])) _
          refine XS.iconst X62.here hx rfl (hb hby at_188) ?_
          show Steps p.tables e below (T62.setTop (mkF m 189 #[.val (.int p0), .val (.int p1), .val (.int p2), .val (.int n1), .val (.int n2), .val (.int x1), .val (.int y1), .val (.int x2), .val (.int y2), .val (.ref bb_14), .val (.ref bb_16), .val (.int cm), .val (.int (own_sg (n1 - n2))), .val (.int (own_sg (own_cmp n1 n2 x1 y1 x2 y2)))] [(.int (1 : Int32))])) _
          refine XS.goto X62.here hx rfl (pc0 := 189) (pc' := 193) rfl (hb hby at_189) (by decide) (by decide) ?_
          show Steps p.tables e below (T62.setTop (mkF m 193 #[.val (.int p0), .val (.int p1), .val (.int p2), .val (.int n1), .val (.int n2), .val (.int x1), .val (.int y1), .val (.int x2), .val (.int y2), .val (.ref bb_14), .val (.ref bb_16), .val (.int cm), .val (.int (own_sg (n1 - n2))), .val (.int (own_sg (own_cmp n1 n2 x1 y1 x2 y2)))] [(.int (1 : Int32))])) _
          exact retN X62 hx (t := .boolean) Bd.returns (by simp) (hb hby at_193) hr
        · show Q0 Z p0 p1 p2 G1 fv h0 n0 _ T62.heap _
          rw [eh62]
          exact ⟨N62, rfl⟩
set_option maxRecDepth 65536 in
set_option maxHeartbeats 40000000 in
theorem comes_1 {Post : Tables → Env → Array Value → State → Outcome → State → Prop} (hpost : ∀ tb e args s v u, (limb_1_1.after args s (.returned v) u = true ∧ limb_1_2.after args s (.returned v) u = true ∧ True) → ReturnedEndW s (.returned v) u (Jvm.fieldLocs frame_1_writes args s ++ Jvm.arrayLocs frame_1_arrays args s ++ Jvm.staticLocs frame_1_statics s) 32 1152 → Post tb e args s (.returned v) u) :
    ArmFor flags0 classFile x code maxLocals ret World_1 tables_1 room_1 Calls_1 rest_1 Pre_1 Post := by
  intro l hfl _ _ p e ha hc hk s m args below hf hA hF happ hP
  obtain ⟨hcalls, hrest, hpre⟩ := hP
  obtain ⟨-, -, -, hnamed, -, -, -, hat⟩ := (Spec.applies_iff hf).mp happ
  obtain ⟨hg, hn⟩ := and_e (Cond.before_iff.mp (show (Jvm.Cond.and given_1 narrow_1).before args s = true from hpre))
  obtain ⟨gv1, gv2⟩ := and_e hg
  obtain ⟨gv3, gv4⟩ := and_e gv2
  obtain ⟨gv5, gv6⟩ := and_e gv4
  obtain ⟨w0, w1, w2, rfl⟩ : ∃ w0 w1 w2 : Value, args = #[w0, w1, w2] := by
    have hs : args.size = 3 := by simpa [Cond.value, given_1] using gv1
    obtain ⟨L⟩ := args
    match L, hs with
    | [w0, w1, w2], _ => exact ⟨w0, w1, w2, rfl⟩
  have hw := fun d (hd : d ∈ tables_1) => atoms_spec (ws := Jvm.Cond.code x code maxLocals ret :: tables_1) hat d (List.mem_cons_of_mem _ hd)
  have hfit : Fit s := fun {y c} hc i hi => by
    obtain ⟨ha, rfl⟩ := Array.getElem?_eq_some_iff.mp hc
    have q := List.all_eq_true.mp ((Array.all_eq_true_iff_forall_mem.mp hF) _ (Array.getElem_mem ha)) i (List.mem_range.mpr hi)
    simpa [Array.getElem?_eq_getElem hi] using q
  obtain ⟨hsets, hown0⟩ := atoms_of _ (rest_1_c_eq ▸ (show rest_1_c.before _ s = true from hrest))
  obtain ⟨i0, ei0⟩ := is_v gv3
  obtain rfl : w0 = (.int i0) := Option.some.inj ei0
  obtain ⟨i1, ei1⟩ := is_v gv5
  obtain rfl : w1 = (.int i1) := Option.some.inj ei1
  obtain ⟨i2, ei2⟩ := is_v gv6
  obtain rfl : w2 = (.int i2) := Option.some.inj ei2
  have n5 := not_v (Cond.before_iff.mp (hsets _ (List.mem_of_getElem? (i := 2) rfl)))
  obtain ⟨i11, e10⟩ := is_v (Cond.before_iff.mp (hsets _ (List.mem_of_getElem? (i := 1) rfl)))
  have S12 : Sta s s.heap "java/lang/String" "COMPACT_STRINGS" "Z" (.int i11) := Sta.start e10 (Or.inl (hsets _ (List.mem_of_getElem? (i := 0) rfl)))
  have c17 : ¬ (i11 = (0 : Int32)) := gotF (Cond.eq_ints e10 (Term.int_eval (0))) n5
  have hEL : EW s _ own_EL := (EW.cons (own_k hw 35 rfl) (by decide) EW.nil)
  have hCH : CHv s own_EL s.vm s.heap := CHv.start hEL (fun p hp => hcalls.1 p ((by decide +kernel : ∀ p ∈ own_EL, p ∈ consts_1) p hp)) (hsets _ (List.mem_of_getElem? (i := 2) rfl)) (own_k hw 24 rfl) (own_k hw 6 rfl)
  obtain ⟨fv, e20, hfr⟩ := isR_v (Cond.before_iff.mp (hsets _ (List.mem_of_getElem? (i := 8) rfl)))
  have S20 : Sta s s.heap "jdk/internal/util/Preconditions" "SIOOBE_FORMATTER" "Ljava/util/function/BiFunction;" fv := Sta.start e20 (Or.inl (hsets _ (List.mem_of_getElem? (i := 7) rfl)))
  have S_11 : Sta s s.heap "java/lang/StringUTF16" "$assertionsDisabled" "Z" (.int (1 : Int32)) := Sta.start (own_eqv (Cond.before_iff.mp (hsets _ (List.mem_of_getElem? (i := 12) rfl)))) (Or.inl (hsets _ (List.mem_of_getElem? (i := 11) rfl)))
  have S_14 : Sta s s.heap "java/lang/StringUTF16" "HI_BYTE_SHIFT" "I" (.int (0 : Int32)) := Sta.start (own_eqv (Cond.before_iff.mp (hsets _ (List.mem_of_getElem? (i := 15) rfl)))) (Or.inl (hsets _ (List.mem_of_getElem? (i := 14) rfl)))
  have S_17 : Sta s s.heap "java/lang/StringUTF16" "LO_BYTE_SHIFT" "I" (.int (8 : Int32)) := Sta.start (own_eqv (Cond.before_iff.mp (hsets _ (List.mem_of_getElem? (i := 18) rfl)))) (Or.inl (hsets _ (List.mem_of_getElem? (i := 17) rfl)))
  obtain ⟨n, o, h1, h2, h3, _, L, rfl, ⟨N, rfl⟩, -, hq⟩ := rm0 l s _ hw tables_1 i0 i1 i2 i11 fv s.heap s.heap.size (Nat.le_refl _) S12 c17 S_11 S_14 S_17 S20 hfr (Old.start s) p e ha hc hk s m _ below hf ((Spec.applies_iff_loose hf).mp happ).1 ⟨rfl, State.Warmed39.refl s, rfl, hCH, all0⟩ trivial
  refine ⟨n, _, h1, h2, h3, hpost _ _ _ _ _ _ ⟨Cond.after_iff.mpr rfl, Cond.after_iff.mpr (eq_i res_at (Term.int_eval (1)) rfl), trivial⟩ ⟨hq.1, hq.2.1, hq.2.2.1, (hq.2.2.2.sift fun y hy => Or.inr (N y hy)).mono (by decide) (by decide)⟩⟩
theorem main_1_1 : Claimed_1_1 := comes_1 fun _ _ _ _ _ _ h hF => ⟨h.1, hF⟩
theorem main_1_2 : Claimed_1_2 := comes_1 fun _ _ _ _ _ _ h hF => ⟨h.2.1, hF⟩
end Jvm.Pilot.@@N@@
namespace Jvm.Pilot.@@N@@
open Jvm Jvm.ClassFile Sem Op Lib Jvm.Free Jvm.Stand Jvm.Pilot.@@N@@.Jvm.D
/-! MADE BY PROGRAM (witnessworld.py) out of the Statement's table words and the real class files: 24 classes; the members and pool entries that the words name. The judged class is class 1, her method 4. -/
namespace start1
open Jvm.ClassFile
def u (s : String) : CpInfo := .utf8 (stringToUtf16 s)
/-- a pool by its gaps: so many unusable entries, then the entry; so many at the end -/
def gap : Nat → List CpInfo → List CpInfo
  | 0, r => r
  | n + 1, r => .unusable :: gap n r
def poolList (es : List (Nat × CpInfo)) (last : Nat) : List CpInfo := es.foldr (fun e r => gap e.1 (e.2 :: r)) (gap last [])
def pool (es : List (Nat × CpInfo)) (last : Nat) : Array CpInfo := ⟨poolList es last⟩
def fileOf (pool : Array CpInfo) (this : Nat) (attrs : Array Attribute := #[]) (ms : Array MethodInfo := #[]) (fl : Nat := 33) (sup : Nat := 0) (ifs : Array Nat := #[]) (fds : Array FieldInfo := #[]) : ClassFile where
  minorVersion := 0
  majorVersion := 65
  constantPool := pool
  accessFlags := fl
  thisClass := this
  superClass := sup
  interfaces := ifs
  fields := fds
  methods := ms
  attributes := attrs
def plain (name : String) (sup : Option ClassId) : Class where
  name := name
  kind := .ordinary
  loader := none
  accessFlags := 33
  super := sup
  interfaces := #[]
  cf := none
  fields := #[]
  methods := #[]
  instanceTypes := #[]
  staticTypes := #[]
  resolved := #[]
  callSites := []
  init := .initialized
  statics := none
  mirror := none

def pool0 : Array CpInfo := pool [(5, u "<init>"), (0, u "()V"), (1, .class_ 10), (1, u "java/lang/Object")] 113

def k0c0 : Code := { maxStack := 0, maxLocals := 1, code := object_method_1_code, exceptionTable := #[], attributes := #[] }
def k0m0 : Method := { name := "<init>", desc := "()V", sig := { parameters := [], returnType := none }, accessFlags := 1, code := some k0c0 }
/-- java/lang/Object -/
def k0 : Class := { plain "java/lang/Object" none with
  accessFlags := 33
  interfaces := #[]
  cf := some (fileOf pool0 8 #[] #[{ accessFlags := 1, nameIndex := 5, descriptorIndex := 6, attributes := #[] }] 33 0 #[] #[])
  fields := #[]
  methods := #[k0m0]
  instanceTypes := #[]
  staticTypes := #[]
  resolved := Array.replicate 124 none
  statics := none }

def pool1 : Array CpInfo := pool [(2, .class_ 4), (1, u "java/lang/Object"), (0, u "<init>"), (0, u "()V"), (0, .integer 55296), (0, .integer 57343), (0, .class_ 10), (0, u "java/lang/String"), (0, .methodref 9 12), (0, .nameAndType 5 13), (0, u "([C)V"), (0, .integer 65535), (0, .methodref 16 17), (0, .class_ 18), (0, .nameAndType 19 20), (0, u "com/example/topics_into_queries/topicsintoqueries/CodePointsComparePinLaw"), (0, u "str"), (0, u "(ICC)Ljava/lang/String;"), (0, .methodref 22 23), (0, .class_ 24), (0, .nameAndType 25 26), (0, u "java/lang/Math"), (0, u "min"), (0, u "(II)I"), (0, .methodref 16 28), (0, .nameAndType 29 30), (0, u "key"), (0, u "(I)I"), (0, .methodref 16 32), (0, .nameAndType 33 30), (0, u "sgn"), (0, .methodref 35 36), (0, .class_ 37), (0, .nameAndType 38 39), (0, u "com/example/topics_into_queries/topicsintoqueries/CodePoints"), (0, u "compare"), (0, u "(Ljava/lang/String;Ljava/lang/String;)I"), (3, u "law"), (0, u "(III)Z")] 2

def k1m0 : Method := { name := "<init>", desc := "()V", sig := { parameters := [], returnType := none }, accessFlags := 2, code := none }
def k1c1 : Code := { maxStack := 2, maxLocals := 1, code := method_2_code, exceptionTable := #[], attributes := #[] }
def k1m1 : Method := { name := "key", desc := "(I)I", sig := { parameters := [.int], returnType := some .int }, accessFlags := 10, code := some k1c1 }
def k1c2 : Code := { maxStack := 1, maxLocals := 1, code := method_3_code, exceptionTable := #[], attributes := #[] }
def k1m2 : Method := { name := "sgn", desc := "(I)I", sig := { parameters := [.int], returnType := some .int }, accessFlags := 10, code := some k1c2 }
def k1c3 : Code := { maxStack := 6, maxLocals := 3, code := method_4_code, exceptionTable := #[], attributes := #[] }
def k1m3 : Method := { name := "str", desc := "(ICC)Ljava/lang/String;", sig := { parameters := [.int, .char, .char], returnType := some (.object "java/lang/String") }, accessFlags := 10, code := some k1c3 }
def k1c4 : Code := { maxStack := 3, maxLocals := 14, code := code, exceptionTable := #[], attributes := #[] }
def k1m4 : Method := { name := "law", desc := "(III)Z", sig := { parameters := [.int, .int, .int], returnType := some .boolean }, accessFlags := 9, code := some k1c4 }
/-- com/example/topics_into_queries/topicsintoqueries/CodePointsComparePinLaw -/
def k1 : Class := { plain "com/example/topics_into_queries/topicsintoqueries/CodePointsComparePinLaw" (some 0) with
  accessFlags := 49
  interfaces := #[]
  cf := some (fileOf pool1 16 #[] #[{ accessFlags := 2, nameIndex := 5, descriptorIndex := 6, attributes := #[] }, { accessFlags := 10, nameIndex := 29, descriptorIndex := 30, attributes := #[] }, { accessFlags := 10, nameIndex := 33, descriptorIndex := 30, attributes := #[] }, { accessFlags := 10, nameIndex := 19, descriptorIndex := 20, attributes := #[] }, { accessFlags := 9, nameIndex := 43, descriptorIndex := 44, attributes := #[] }] 49 2 #[] #[])
  fields := #[]
  methods := #[k1m0, k1m1, k1m2, k1m3, k1m4]
  instanceTypes := #[]
  staticTypes := #[]
  resolved := Array.replicate 47 none
  statics := none }

def pool2 : Array CpInfo := pool [(1, .class_ 2), (0, u "java/io/Serializable"), (0, .class_ 4), (0, u "java/lang/Object")] 2

/-- java/io/Serializable -/
def k2 : Class := { plain "java/io/Serializable" (some 0) with
  accessFlags := 1537
  interfaces := #[]
  cf := some (fileOf pool2 1 #[] #[] 1537 3 #[] #[])
  fields := #[]
  methods := #[]
  instanceTypes := #[]
  staticTypes := #[]
  resolved := Array.replicate 7 none
  statics := none }

def pool3 : Array CpInfo := pool [(1, .class_ 2), (0, u "java/lang/Comparable"), (0, .class_ 4), (0, u "java/lang/Object")] 7

/-- java/lang/Comparable -/
def k3 : Class := { plain "java/lang/Comparable" (some 0) with
  accessFlags := 1537
  interfaces := #[]
  cf := some (fileOf pool3 1 #[] #[] 1537 3 #[] #[])
  fields := #[]
  methods := #[]
  instanceTypes := #[]
  staticTypes := #[]
  resolved := Array.replicate 12 none
  statics := none }

def pool4 : Array CpInfo := pool [(2, .class_ 4), (1, u "java/lang/CharSequence"), (42, .class_ 48), (0, u "java/lang/CharSequence$1CodePointIterator"), (10, .class_ 60), (0, u "java/lang/CharSequence$1CharIterator"), (5, .class_ 67), (0, u "java/lang/Object")] 63

/-- java/lang/CharSequence -/
def k4 : Class := { plain "java/lang/CharSequence" (some 0) with
  accessFlags := 1537
  interfaces := #[]
  cf := some (fileOf pool4 2 #[.nestMembers #[47, 59]] #[] 1537 66 #[] #[])
  fields := #[]
  methods := #[]
  instanceTypes := #[]
  staticTypes := #[]
  resolved := Array.replicate 131 none
  statics := none }

def pool5 : Array CpInfo := pool [(1, .class_ 2), (0, u "java/lang/constant/Constable"), (0, .class_ 4), (0, u "java/lang/Object")] 6

/-- java/lang/constant/Constable -/
def k5 : Class := { plain "java/lang/constant/Constable" (some 0) with
  accessFlags := 1537
  interfaces := #[]
  cf := some (fileOf pool5 1 #[] #[] 1537 3 #[] #[])
  fields := #[]
  methods := #[]
  instanceTypes := #[]
  staticTypes := #[]
  resolved := Array.replicate 11 none
  statics := none }

def pool6 : Array CpInfo := pool [(1, .class_ 2), (0, u "java/lang/constant/ConstantDesc"), (0, .class_ 4), (0, u "java/lang/Object")] 32

/-- java/lang/constant/ConstantDesc -/
def k6 : Class := { plain "java/lang/constant/ConstantDesc" (some 0) with
  accessFlags := 1537
  interfaces := #[]
  cf := some (fileOf pool6 1 #[] #[] 1537 3 #[] #[])
  fields := #[]
  methods := #[]
  instanceTypes := #[]
  staticTypes := #[]
  resolved := Array.replicate 37 none
  statics := none }

def pool7 : Array CpInfo := pool [(1, .methodref 2 3), (0, .class_ 4), (0, .nameAndType 5 6), (0, u "java/lang/Object"), (0, u "<init>"), (0, u "()V"), (0, .string 8), (0, u ""), (0, .fieldref 10 11), (0, .class_ 12), (0, .nameAndType 13 14), (0, u "java/lang/String"), (0, u "value"), (0, u "[B"), (0, .fieldref 10 16), (0, .nameAndType 17 18), (0, u "coder"), (0, u "B"), (2, u "hash"), (0, u "I"), (2, u "hashIsZero"), (0, u "Z"), (0, .methodref 10 28), (0, .nameAndType 5 29), (0, u "([CIILjava/lang/Void;)V"), (8, .fieldref 10 39), (0, .nameAndType 40 26), (0, u "COMPACT_STRINGS"), (1, .class_ 44), (1, u "java/lang/StringUTF16"), (0, u "compress"), (1, .methodref 42 48), (0, .nameAndType 49 50), (0, u "coderFromArrayLen"), (0, u "([BI)B"), (56, .class_ 109), (1, u "java/lang/StringLatin1"), (32, u "()Z"), (34, .methodref 42 178), (0, .nameAndType 45 179), (0, u "([CII)[B"), (154, u "()I"), (0, .methodref 10 336), (0, .nameAndType 17 337), (0, u "()B"), (25, u "([BI)C"), (27, u "(II)V"), (35, u "(I)C"), (64, .methodref 10 493), (0, .nameAndType 494 142), (0, u "isLatin1"), (0, .methodref 107 496), (0, .nameAndType 497 363), (0, u "charAt"), (0, .methodref 42 496), (2, u "checkIndex"), (5, u "length"), (67, .class_ 576), (0, u "java/lang/CharSequence"), (22, u "CASE_INSENSITIVE_ORDER"), (0, u "Ljava/util/Comparator;"), (409, u "([C)V"), (42, .fieldref 1054 1055), (0, .class_ 1056), (0, .nameAndType 1057 1058), (0, u "jdk/internal/util/Preconditions"), (0, u "SIOOBE_FORMATTER"), (0, u "Ljava/util/function/BiFunction;"), (0, .methodref 1054 1060), (0, .nameAndType 501 1061), (0, u "(IILjava/util/function/BiFunction;)I"), (39, u "serialPersistentFields"), (0, u "[Ljava/io/ObjectStreamField;"), (0, .class_ 1104), (0, u "java/lang/String$CaseInsensitiveComparator"), (1, .class_ 1107), (0, u "java/io/Serializable"), (0, .class_ 1109), (0, u "java/lang/Comparable"), (0, .class_ 1111), (0, u "java/lang/constant/Constable"), (0, .class_ 1113), (0, u "java/lang/constant/ConstantDesc"), (2, u "serialVersionUID"), (0, u "J"), (3, u "REPL"), (0, u "C"), (2, u "LATIN1"), (1, u "UTF16")] 323

def k7m0 : Method := { name := "<init>", desc := "()V", sig := { parameters := [], returnType := none }, accessFlags := 1, code := none }
def k7c1 : Code := { maxStack := 5, maxLocals := 2, code := jdk_42_method_3_code, exceptionTable := #[], attributes := #[] }
def k7m1 : Method := { name := "<init>", desc := "([C)V", sig := { parameters := [(.array .char)], returnType := none }, accessFlags := 1, code := some k7c1 }
def k7c2 : Code := { maxStack := 2, maxLocals := 1, code := jdk_42_method_54_code, exceptionTable := #[], attributes := #[] }
def k7m2 : Method := { name := "length", desc := "()I", sig := { parameters := [], returnType := some .int }, accessFlags := 1, code := some k7c2 }
def k7c3 : Code := { maxStack := 2, maxLocals := 2, code := jdk_42_method_56_code, exceptionTable := #[], attributes := #[] }
def k7m3 : Method := { name := "charAt", desc := "(I)C", sig := { parameters := [.int], returnType := some .char }, accessFlags := 1, code := some k7c3 }
def k7c4 : Code := { maxStack := 4, maxLocals := 6, code := jdk_42_method_149_code, exceptionTable := #[], attributes := #[] }
def k7m4 : Method := { name := "<init>", desc := "([CIILjava/lang/Void;)V", sig := { parameters := [(.array .char), .int, .int, (.object "java/lang/Void")], returnType := none }, accessFlags := 2, code := some k7c4 }
def k7c5 : Code := { maxStack := 1, maxLocals := 1, code := jdk_42_method_152_code, exceptionTable := #[], attributes := #[] }
def k7m5 : Method := { name := "coder", desc := "()B", sig := { parameters := [], returnType := some .byte }, accessFlags := 0, code := some k7c5 }
def k7c6 : Code := { maxStack := 1, maxLocals := 1, code := jdk_42_method_154_code, exceptionTable := #[], attributes := #[] }
def k7m6 : Method := { name := "isLatin1", desc := "()Z", sig := { parameters := [], returnType := some .boolean }, accessFlags := 0, code := some k7c6 }
def k7c7 : Code := { maxStack := 3, maxLocals := 2, code := jdk_42_method_155_code, exceptionTable := #[], attributes := #[] }
def k7m7 : Method := { name := "checkIndex", desc := "(II)V", sig := { parameters := [.int, .int], returnType := none }, accessFlags := 8, code := some k7c7 }
/-- java/lang/String -/
def k7 : Class := { plain "java/lang/String" (some 0) with
  accessFlags := 49
  interfaces := #[2, 3, 4, 5, 6]
  cf := some (fileOf pool7 10 #[.nestMembers #[1103]] #[{ accessFlags := 1, nameIndex := 5, descriptorIndex := 6, attributes := #[] }, { accessFlags := 1, nameIndex := 5, descriptorIndex := 1010, attributes := #[] }, { accessFlags := 1, nameIndex := 507, descriptorIndex := 334, attributes := #[] }, { accessFlags := 1, nameIndex := 497, descriptorIndex := 427, attributes := #[] }, { accessFlags := 2, nameIndex := 5, descriptorIndex := 29, attributes := #[] }, { accessFlags := 0, nameIndex := 17, descriptorIndex := 337, attributes := #[] }, { accessFlags := 0, nameIndex := 494, descriptorIndex := 142, attributes := #[] }, { accessFlags := 8, nameIndex := 501, descriptorIndex := 391, attributes := #[] }] 49 2 #[1106, 1108, 575, 1110, 1112] #[{ accessFlags := 18, nameIndex := 13, descriptorIndex := 14, attributes := #[] }, { accessFlags := 18, nameIndex := 17, descriptorIndex := 18, attributes := #[] }, { accessFlags := 2, nameIndex := 21, descriptorIndex := 22, attributes := #[] }, { accessFlags := 2, nameIndex := 25, descriptorIndex := 26, attributes := #[] }, { accessFlags := 26, nameIndex := 1116, descriptorIndex := 1117, attributes := #[] }, { accessFlags := 24, nameIndex := 40, descriptorIndex := 26, attributes := #[] }, { accessFlags := 26, nameIndex := 1101, descriptorIndex := 1102, attributes := #[] }, { accessFlags := 26, nameIndex := 1121, descriptorIndex := 1122, attributes := #[] }, { accessFlags := 25, nameIndex := 599, descriptorIndex := 600, attributes := #[] }, { accessFlags := 24, nameIndex := 1125, descriptorIndex := 18, attributes := #[] }, { accessFlags := 24, nameIndex := 1127, descriptorIndex := 18, attributes := #[] }])
  fields := #[{ name := "value", type := (.array .byte), accessFlags := 18, slot := 0, constantValue := 0 }, { name := "coder", type := .byte, accessFlags := 18, slot := 1, constantValue := 0 }, { name := "hash", type := .int, accessFlags := 2, slot := 2, constantValue := 0 }, { name := "hashIsZero", type := .boolean, accessFlags := 2, slot := 3, constantValue := 0 }, { name := "serialVersionUID", type := .long, accessFlags := 26, slot := 0, constantValue := 0 }, { name := "COMPACT_STRINGS", type := .boolean, accessFlags := 24, slot := 1, constantValue := 0 }, { name := "serialPersistentFields", type := (.array (.object "java/io/ObjectStreamField")), accessFlags := 26, slot := 2, constantValue := 0 }, { name := "REPL", type := .char, accessFlags := 26, slot := 3, constantValue := 0 }, { name := "CASE_INSENSITIVE_ORDER", type := (.object "java/util/Comparator"), accessFlags := 25, slot := 4, constantValue := 0 }, { name := "LATIN1", type := .byte, accessFlags := 24, slot := 5, constantValue := 0 }, { name := "UTF16", type := .byte, accessFlags := 24, slot := 6, constantValue := 0 }]
  methods := #[k7m0, k7m1, k7m2, k7m3, k7m4, k7m5, k7m6, k7m7]
  instanceTypes := #[(.array .byte), .byte, .int, .boolean]
  staticTypes := #[.long, .boolean, (.array (.object "java/io/ObjectStreamField")), .char, (.object "java/util/Comparator"), .byte, .byte]
  resolved := Array.replicate 1451 none
  statics := some 0 }

def pool8 : Array CpInfo := pool [(3, .class_ 4), (0, u "java/lang/String"), (1, .class_ 8), (1, u "java/lang/Object"), (0, u "<init>"), (0, u "()V"), (0, .methodref 12 13), (0, .class_ 14), (0, .nameAndType 15 16), (0, u "java/lang/StringUTF16"), (0, u "newBytesLength"), (0, u "(I)I"), (3, .integer 1073741823), (23, .fieldref 12 45), (0, .nameAndType 46 47), (0, u "$assertionsDisabled"), (0, u "Z"), (0, .methodref 12 49), (0, .nameAndType 50 51), (0, u "length"), (0, u "([B)I"), (7, .fieldref 12 60), (0, .nameAndType 61 62), (0, u "HI_BYTE_SHIFT"), (0, u "I"), (0, .fieldref 12 64), (0, .nameAndType 65 62), (0, u "LO_BYTE_SHIFT"), (1, .methodref 12 68), (0, .nameAndType 69 70), (0, u "checkIndex"), (0, u "(I[B)V"), (0, .methodref 12 72), (0, .nameAndType 73 74), (0, u "getChar"), (0, u "([BI)C"), (32, .methodref 12 108), (0, .nameAndType 109 110), (0, u "newBytesFor"), (0, u "(I)[B"), (0, .methodref 12 112), (0, .nameAndType 113 114), (0, u "putChar"), (0, u "([BII)V"), (0, .methodref 12 116), (0, .nameAndType 117 118), (0, u "compress"), (0, u "([CI[BII)I"), (0, .methodref 12 120), (0, .nameAndType 121 122), (0, u "toBytes"), (0, u "([CII)[B"), (138, u "coderFromArrayLen"), (0, u "([BI)B"), (106, .class_ 371), (1, u "java/lang/StringUTF16$LinesSpliterator"), (20, u "charAt"), (21, .methodref 3 415), (0, .nameAndType 69 416), (0, u "(II)V"), (13, u "MAX_LENGTH"), (196, .class_ 628), (0, u "java/lang/StringUTF16$CodePointsSpliterator"), (0, .class_ 630), (0, u "java/lang/StringUTF16$CharsSpliterator")] 4

def k8m0 : Method := { name := "<init>", desc := "()V", sig := { parameters := [], returnType := none }, accessFlags := 0, code := none }
def k8c1 : Code := { maxStack := 1, maxLocals := 1, code := jdk_52_method_2_code, exceptionTable := #[], attributes := #[] }
def k8m1 : Method := { name := "newBytesFor", desc := "(I)[B", sig := { parameters := [.int], returnType := some (.array .byte) }, accessFlags := 9, code := some k8c1 }
def k8c2 : Code := { maxStack := 4, maxLocals := 1, code := jdk_52_method_3_code, exceptionTable := #[], attributes := #[] }
def k8m2 : Method := { name := "newBytesLength", desc := "(I)I", sig := { parameters := [.int], returnType := some .int }, accessFlags := 9, code := some k8c2 }
def k8c3 : Code := { maxStack := 4, maxLocals := 3, code := jdk_52_method_4_code, exceptionTable := #[], attributes := #[] }
def k8m3 : Method := { name := "putChar", desc := "([BII)V", sig := { parameters := [(.array .byte), .int, .int], returnType := none }, accessFlags := 8, code := some k8c3 }
def k8c4 : Code := { maxStack := 3, maxLocals := 2, code := jdk_52_method_5_code, exceptionTable := #[], attributes := #[] }
def k8m4 : Method := { name := "getChar", desc := "([BI)C", sig := { parameters := [(.array .byte), .int], returnType := some .char }, accessFlags := 8, code := some k8c4 }
def k8c5 : Code := { maxStack := 2, maxLocals := 1, code := jdk_52_method_6_code, exceptionTable := #[], attributes := #[] }
def k8m5 : Method := { name := "length", desc := "([B)I", sig := { parameters := [(.array .byte)], returnType := some .int }, accessFlags := 9, code := some k8c5 }
def k8c6 : Code := { maxStack := 4, maxLocals := 5, code := jdk_52_method_14_code, exceptionTable := #[], attributes := #[] }
def k8m6 : Method := { name := "toBytes", desc := "([CII)[B", sig := { parameters := [(.array .char), .int, .int], returnType := some (.array .byte) }, accessFlags := 9, code := some k8c6 }
def k8c7 : Code := { maxStack := 2, maxLocals := 2, code := jdk_52_method_15_code, exceptionTable := #[], attributes := #[] }
def k8m7 : Method := { name := "coderFromArrayLen", desc := "([BI)B", sig := { parameters := [(.array .byte), .int], returnType := some .byte }, accessFlags := 8, code := some k8c7 }
def k8c8 : Code := { maxStack := 5, maxLocals := 6, code := jdk_52_method_16_code, exceptionTable := #[], attributes := #[] }
def k8m8 : Method := { name := "compress", desc := "([CII)[B", sig := { parameters := [(.array .char), .int, .int], returnType := some (.array .byte) }, accessFlags := 9, code := some k8c8 }
def k8c9 : Code := { maxStack := 3, maxLocals := 7, code := jdk_52_method_21_code, exceptionTable := #[], attributes := #[] }
def k8m9 : Method := { name := "compress", desc := "([CI[BII)I", sig := { parameters := [(.array .char), .int, (.array .byte), .int, .int], returnType := some .int }, accessFlags := 9, code := some k8c9 }
def k8c10 : Code := { maxStack := 2, maxLocals := 2, code := jdk_52_method_83_code, exceptionTable := #[], attributes := #[] }
def k8m10 : Method := { name := "charAt", desc := "([BI)C", sig := { parameters := [(.array .byte), .int], returnType := some .char }, accessFlags := 9, code := some k8c10 }
def k8c11 : Code := { maxStack := 2, maxLocals := 2, code := jdk_52_method_91_code, exceptionTable := #[], attributes := #[] }
def k8m11 : Method := { name := "checkIndex", desc := "(I[B)V", sig := { parameters := [.int, (.array .byte)], returnType := none }, accessFlags := 9, code := some k8c11 }
/-- java/lang/StringUTF16 -/
def k8 : Class := { plain "java/lang/StringUTF16" (some 0) with
  accessFlags := 48
  interfaces := #[]
  cf := some (fileOf pool8 12 #[.nestMembers #[627, 629, 369]] #[{ accessFlags := 0, nameIndex := 9, descriptorIndex := 10, attributes := #[] }, { accessFlags := 9, nameIndex := 109, descriptorIndex := 110, attributes := #[] }, { accessFlags := 9, nameIndex := 15, descriptorIndex := 16, attributes := #[] }, { accessFlags := 8, nameIndex := 113, descriptorIndex := 114, attributes := #[] }, { accessFlags := 8, nameIndex := 73, descriptorIndex := 74, attributes := #[] }, { accessFlags := 9, nameIndex := 50, descriptorIndex := 51, attributes := #[] }, { accessFlags := 9, nameIndex := 121, descriptorIndex := 122, attributes := #[] }, { accessFlags := 8, nameIndex := 261, descriptorIndex := 262, attributes := #[] }, { accessFlags := 9, nameIndex := 117, descriptorIndex := 122, attributes := #[] }, { accessFlags := 9, nameIndex := 117, descriptorIndex := 118, attributes := #[] }, { accessFlags := 9, nameIndex := 392, descriptorIndex := 74, attributes := #[] }, { accessFlags := 9, nameIndex := 69, descriptorIndex := 70, attributes := #[] }] 48 6 #[] #[{ accessFlags := 26, nameIndex := 61, descriptorIndex := 62, attributes := #[] }, { accessFlags := 26, nameIndex := 65, descriptorIndex := 62, attributes := #[] }, { accessFlags := 24, nameIndex := 430, descriptorIndex := 62, attributes := #[] }, { accessFlags := 4120, nameIndex := 46, descriptorIndex := 47, attributes := #[] }])
  fields := #[{ name := "HI_BYTE_SHIFT", type := .int, accessFlags := 26, slot := 0, constantValue := 0 }, { name := "LO_BYTE_SHIFT", type := .int, accessFlags := 26, slot := 1, constantValue := 0 }, { name := "MAX_LENGTH", type := .int, accessFlags := 24, slot := 2, constantValue := 0 }, { name := "$assertionsDisabled", type := .boolean, accessFlags := 4120, slot := 3, constantValue := 0 }]
  methods := #[k8m0, k8m1, k8m2, k8m3, k8m4, k8m5, k8m6, k8m7, k8m8, k8m9, k8m10, k8m11]
  instanceTypes := #[]
  staticTypes := #[.int, .int, .int, .boolean]
  resolved := Array.replicate 635 none
  statics := some 1 }

def pool9 : Array CpInfo := pool [(1, .class_ 2), (0, u "java/lang/Math"), (1, .class_ 6), (1, u "java/lang/Object"), (0, u "<init>"), (0, u "()V"), (89, .class_ 100), (1, u "java/lang/Math$RandomNumberGeneratorHolder"), (71, u "negativeZeroFloatBits"), (0, u "J"), (2, u "negativeZeroDoubleBits"), (24, u "min"), (43, u "$assertionsDisabled"), (0, u "Z"), (88, u "(II)I"), (2, u "twoToTheDoubleScaleDown"), (0, u "D"), (4, u "twoToTheDoubleScaleUp"), (9, u "E"), (3, u "PI"), (2, u "TAU"), (2, u "DEGREES_TO_RADIANS"), (0, u "RADIANS_TO_DEGREES")] 94

def k9m0 : Method := { name := "<init>", desc := "()V", sig := { parameters := [], returnType := none }, accessFlags := 2, code := none }
def k9c1 : Code := { maxStack := 2, maxLocals := 2, code := jdk_29_method_69_code, exceptionTable := #[], attributes := #[] }
def k9m1 : Method := { name := "min", desc := "(II)I", sig := { parameters := [.int, .int], returnType := some .int }, accessFlags := 9, code := some k9c1 }
/-- java/lang/Math -/
def k9 : Class := { plain "java/lang/Math" (some 0) with
  accessFlags := 49
  interfaces := #[]
  cf := some (fileOf pool9 1 #[.nestMembers #[98]] #[{ accessFlags := 2, nameIndex := 7, descriptorIndex := 8, attributes := #[] }, { accessFlags := 9, nameIndex := 201, descriptorIndex := 335, attributes := #[] }] 49 4 #[] #[{ accessFlags := 25, nameIndex := 354, descriptorIndex := 339, attributes := #[] }, { accessFlags := 25, nameIndex := 358, descriptorIndex := 339, attributes := #[] }, { accessFlags := 25, nameIndex := 361, descriptorIndex := 339, attributes := #[] }, { accessFlags := 26, nameIndex := 364, descriptorIndex := 339, attributes := #[] }, { accessFlags := 26, nameIndex := 365, descriptorIndex := 339, attributes := #[] }, { accessFlags := 26, nameIndex := 172, descriptorIndex := 173, attributes := #[] }, { accessFlags := 26, nameIndex := 176, descriptorIndex := 173, attributes := #[] }, { accessFlags := 8, nameIndex := 344, descriptorIndex := 339, attributes := #[] }, { accessFlags := 8, nameIndex := 338, descriptorIndex := 339, attributes := #[] }, { accessFlags := 4120, nameIndex := 245, descriptorIndex := 246, attributes := #[] }])
  fields := #[{ name := "E", type := .double, accessFlags := 25, slot := 0, constantValue := 0 }, { name := "PI", type := .double, accessFlags := 25, slot := 1, constantValue := 0 }, { name := "TAU", type := .double, accessFlags := 25, slot := 2, constantValue := 0 }, { name := "DEGREES_TO_RADIANS", type := .double, accessFlags := 26, slot := 3, constantValue := 0 }, { name := "RADIANS_TO_DEGREES", type := .double, accessFlags := 26, slot := 4, constantValue := 0 }, { name := "negativeZeroFloatBits", type := .long, accessFlags := 26, slot := 5, constantValue := 0 }, { name := "negativeZeroDoubleBits", type := .long, accessFlags := 26, slot := 6, constantValue := 0 }, { name := "twoToTheDoubleScaleUp", type := .double, accessFlags := 8, slot := 7, constantValue := 0 }, { name := "twoToTheDoubleScaleDown", type := .double, accessFlags := 8, slot := 8, constantValue := 0 }, { name := "$assertionsDisabled", type := .boolean, accessFlags := 4120, slot := 9, constantValue := 0 }]
  methods := #[k9m0, k9m1]
  instanceTypes := #[]
  staticTypes := #[.double, .double, .double, .double, .double, .long, .long, .double, .double, .boolean]
  resolved := Array.replicate 460 none
  statics := none }

def pool10 : Array CpInfo := pool [(2, .class_ 4), (1, u "java/lang/Object"), (0, u "<init>"), (0, u "()V"), (0, .methodref 8 9), (0, .class_ 10), (0, .nameAndType 11 12), (0, u "java/lang/String"), (0, u "length"), (0, u "()I"), (0, .methodref 14 15), (0, .class_ 16), (0, .nameAndType 17 18), (0, u "java/lang/Math"), (0, u "min"), (0, u "(II)I"), (0, .methodref 8 20), (0, .nameAndType 21 22), (0, u "charAt"), (0, u "(I)C"), (0, .methodref 24 25), (0, .class_ 26), (0, .nameAndType 27 28), (0, u "com/example/topics_into_queries/topicsintoqueries/CodePoints"), (0, u "rank"), (0, u "(C)I"), (0, .methodref 30 31), (0, .class_ 32), (0, .nameAndType 33 18), (0, u "java/lang/Integer"), (0, u "compare"), (0, .methodref 35 36), (0, .class_ 37), (0, .nameAndType 38 39), (0, u "java/lang/Character"), (0, u "isSurrogate"), (0, u "(C)Z"), (0, .integer 65536), (2, u "(Ljava/lang/String;Ljava/lang/String;)I")] 3

def k10m0 : Method := { name := "<init>", desc := "()V", sig := { parameters := [], returnType := none }, accessFlags := 2, code := none }
def k10c1 : Code := { maxStack := 3, maxLocals := 4, code := prog_1_method_2_code, exceptionTable := #[], attributes := #[] }
def k10m1 : Method := { name := "compare", desc := "(Ljava/lang/String;Ljava/lang/String;)I", sig := { parameters := [(.object "java/lang/String"), (.object "java/lang/String")], returnType := some .int }, accessFlags := 8, code := some k10c1 }
def k10c2 : Code := { maxStack := 2, maxLocals := 1, code := prog_1_method_3_code, exceptionTable := #[], attributes := #[] }
def k10m2 : Method := { name := "rank", desc := "(C)I", sig := { parameters := [.char], returnType := some .int }, accessFlags := 10, code := some k10c2 }
/-- com/example/topics_into_queries/topicsintoqueries/CodePoints -/
def k10 : Class := { plain "com/example/topics_into_queries/topicsintoqueries/CodePoints" (some 0) with
  accessFlags := 32
  interfaces := #[]
  cf := some (fileOf pool10 24 #[] #[{ accessFlags := 2, nameIndex := 5, descriptorIndex := 6, attributes := #[] }, { accessFlags := 8, nameIndex := 33, descriptorIndex := 43, attributes := #[] }, { accessFlags := 10, nameIndex := 27, descriptorIndex := 28, attributes := #[] }] 32 2 #[] #[])
  fields := #[]
  methods := #[k10m0, k10m1, k10m2]
  instanceTypes := #[]
  staticTypes := #[]
  resolved := Array.replicate 47 none
  statics := none }

def pool11 : Array CpInfo := pool [(2, .class_ 4), (1, u "java/lang/Object"), (0, u "<init>"), (0, u "()V"), (1, .class_ 10), (1, u "java/lang/Number"), (2, .class_ 14), (0, u "java/io/Serializable"), (0, u "serialVersionUID"), (0, u "J")] 20

def k11m0 : Method := { name := "<init>", desc := "()V", sig := { parameters := [], returnType := none }, accessFlags := 1, code := none }
/-- java/lang/Number -/
def k11 : Class := { plain "java/lang/Number" (some 0) with
  accessFlags := 1057
  interfaces := #[2]
  cf := some (fileOf pool11 8 #[] #[{ accessFlags := 1, nameIndex := 5, descriptorIndex := 6, attributes := #[] }] 1057 2 #[13] #[{ accessFlags := 26, nameIndex := 15, descriptorIndex := 16, attributes := #[] }])
  fields := #[{ name := "serialVersionUID", type := .long, accessFlags := 26, slot := 0, constantValue := 0 }]
  methods := #[k11m0]
  instanceTypes := #[]
  staticTypes := #[.long]
  resolved := Array.replicate 37 none
  statics := none }

def pool12 : Array CpInfo := pool [(1, .class_ 2), (0, u "java/lang/Integer"), (16, u "digits"), (0, u "[C"), (39, u "(II)I"), (24, u "DigitOnes"), (0, u "[B"), (2, u "DigitTens"), (99, .class_ 190), (0, u "java/lang/Integer$IntegerCache"), (3, u "I"), (8, .class_ 204), (0, u "java/lang/Number"), (2, u "value"), (53, u "compare"), (40, u "TYPE"), (0, u "Ljava/lang/Class;"), (0, .class_ 305), (0, u "java/lang/Comparable"), (0, .class_ 307), (0, u "java/lang/constant/Constable"), (0, .class_ 309), (0, u "java/lang/constant/ConstantDesc"), (0, u "MIN_VALUE"), (1, u "MAX_VALUE"), (3, u "SIZE"), (1, u "BYTES"), (1, u "serialVersionUID"), (0, u "J")] 131

def k12c0 : Code := { maxStack := 2, maxLocals := 2, code := jdk_33_method_40_code, exceptionTable := #[], attributes := #[] }
def k12m0 : Method := { name := "compare", desc := "(II)I", sig := { parameters := [.int, .int], returnType := some .int }, accessFlags := 9, code := some k12c0 }
/-- java/lang/Integer -/
def k12 : Class := { plain "java/lang/Integer" (some 11) with
  accessFlags := 49
  interfaces := #[3, 5, 6]
  cf := some (fileOf pool12 1 #[.nestMembers #[189]] #[{ accessFlags := 9, nameIndex := 261, descriptorIndex := 60, attributes := #[] }] 49 203 #[304, 306, 308] #[{ accessFlags := 25, nameIndex := 310, descriptorIndex := 194, attributes := #[] }, { accessFlags := 25, nameIndex := 312, descriptorIndex := 194, attributes := #[] }, { accessFlags := 25, nameIndex := 302, descriptorIndex := 303, attributes := #[] }, { accessFlags := 24, nameIndex := 19, descriptorIndex := 20, attributes := #[] }, { accessFlags := 24, nameIndex := 89, descriptorIndex := 86, attributes := #[] }, { accessFlags := 24, nameIndex := 85, descriptorIndex := 86, attributes := #[] }, { accessFlags := 18, nameIndex := 207, descriptorIndex := 194, attributes := #[] }, { accessFlags := 25, nameIndex := 316, descriptorIndex := 194, attributes := #[] }, { accessFlags := 25, nameIndex := 318, descriptorIndex := 194, attributes := #[] }, { accessFlags := 26, nameIndex := 320, descriptorIndex := 321, attributes := #[] }])
  fields := #[{ name := "MIN_VALUE", type := .int, accessFlags := 25, slot := 0, constantValue := 0 }, { name := "MAX_VALUE", type := .int, accessFlags := 25, slot := 1, constantValue := 0 }, { name := "TYPE", type := (.object "java/lang/Class"), accessFlags := 25, slot := 2, constantValue := 0 }, { name := "digits", type := (.array .char), accessFlags := 24, slot := 3, constantValue := 0 }, { name := "DigitTens", type := (.array .byte), accessFlags := 24, slot := 4, constantValue := 0 }, { name := "DigitOnes", type := (.array .byte), accessFlags := 24, slot := 5, constantValue := 0 }, { name := "value", type := .int, accessFlags := 18, slot := 0, constantValue := 0 }, { name := "SIZE", type := .int, accessFlags := 25, slot := 6, constantValue := 0 }, { name := "BYTES", type := .int, accessFlags := 25, slot := 7, constantValue := 0 }, { name := "serialVersionUID", type := .long, accessFlags := 26, slot := 8, constantValue := 0 }]
  methods := #[k12m0]
  instanceTypes := #[.int]
  staticTypes := #[.int, .int, (.object "java/lang/Class"), (.array .char), (.array .byte), (.array .byte), .int, .int, .long]
  resolved := Array.replicate 453 none
  statics := none }

def pool13 : Array CpInfo := pool [(2, .class_ 4), (1, u "java/lang/Object"), (0, u "<init>"), (0, u "()V"), (17, .class_ 26), (1, u "jdk/internal/util/Preconditions"), (6, u "checkIndex"), (21, .class_ 56), (0, u "jdk/internal/util/Preconditions$4"), (57, .class_ 115), (0, u "jdk/internal/util/Preconditions$1"), (7, u "SIOOBE_FORMATTER"), (0, u "Ljava/util/function/BiFunction;"), (0, .class_ 126), (0, u "jdk/internal/util/Preconditions$2"), (3, u "AIOOBE_FORMATTER"), (0, .class_ 132), (0, u "jdk/internal/util/Preconditions$3"), (3, u "IOOBE_FORMATTER"), (41, u "(IILjava/util/function/BiFunction;)I")] 15

def k13m0 : Method := { name := "<init>", desc := "()V", sig := { parameters := [], returnType := none }, accessFlags := 1, code := none }
def k13c1 : Code := { maxStack := 3, maxLocals := 3, code := jdk_41_method_11_code, exceptionTable := #[], attributes := #[] }
def k13m1 : Method := { name := "checkIndex", desc := "(IILjava/util/function/BiFunction;)I", sig := { parameters := [.int, .int, (.object "java/util/function/BiFunction")], returnType := some .int }, accessFlags := 9, code := some k13c1 }
/-- jdk/internal/util/Preconditions -/
def k13 : Class := { plain "jdk/internal/util/Preconditions" (some 0) with
  accessFlags := 33
  interfaces := #[]
  cf := some (fileOf pool13 24 #[.nestMembers #[55, 131, 125, 114]] #[{ accessFlags := 1, nameIndex := 5, descriptorIndex := 6, attributes := #[] }, { accessFlags := 9, nameIndex := 33, descriptorIndex := 178, attributes := #[] }] 33 2 #[] #[{ accessFlags := 25, nameIndex := 123, descriptorIndex := 124, attributes := #[] }, { accessFlags := 25, nameIndex := 130, descriptorIndex := 124, attributes := #[] }, { accessFlags := 25, nameIndex := 136, descriptorIndex := 124, attributes := #[] }])
  fields := #[{ name := "SIOOBE_FORMATTER", type := (.object "java/util/function/BiFunction"), accessFlags := 25, slot := 0, constantValue := 0 }, { name := "AIOOBE_FORMATTER", type := (.object "java/util/function/BiFunction"), accessFlags := 25, slot := 1, constantValue := 0 }, { name := "IOOBE_FORMATTER", type := (.object "java/util/function/BiFunction"), accessFlags := 25, slot := 2, constantValue := 0 }]
  methods := #[k13m0, k13m1]
  instanceTypes := #[]
  staticTypes := #[(.object "java/util/function/BiFunction"), (.object "java/util/function/BiFunction"), (.object "java/util/function/BiFunction")]
  resolved := Array.replicate 194 none
  statics := some 2 }

def pool14 : Array CpInfo := pool [(1, .class_ 2), (0, u "java/lang/Character"), (18, u "value"), (0, u "C"), (19, .class_ 44), (1, u "java/lang/Object"), (3, .class_ 50), (1, u "java/lang/Character$CharacterCache"), (24, .integer 55296), (1, .integer 57344), (3, u "(C)Z"), (202, u "$assertionsDisabled"), (0, u "Z"), (21, .class_ 309), (1, u "java/lang/Character$UnicodeBlock"), (73, u "TYPE"), (0, u "Ljava/lang/Class;"), (0, .class_ 386), (0, u "java/io/Serializable"), (0, .class_ 388), (0, u "java/lang/Comparable"), (0, .class_ 390), (0, u "java/lang/constant/Constable"), (0, u "MIN_RADIX"), (0, u "I"), (2, u "MAX_RADIX"), (1, u "MIN_VALUE"), (1, u "MAX_VALUE"), (3, u "UNASSIGNED"), (0, u "B"), (0, u "UPPERCASE_LETTER"), (1, u "LOWERCASE_LETTER"), (0, u "TITLECASE_LETTER"), (1, u "MODIFIER_LETTER"), (1, u "OTHER_LETTER"), (1, u "NON_SPACING_MARK"), (1, u "ENCLOSING_MARK"), (1, u "COMBINING_SPACING_MARK"), (1, u "DECIMAL_DIGIT_NUMBER"), (1, u "LETTER_NUMBER"), (1, u "OTHER_NUMBER"), (1, u "SPACE_SEPARATOR"), (1, u "LINE_SEPARATOR"), (1, u "PARAGRAPH_SEPARATOR"), (1, u "CONTROL"), (1, u "FORMAT"), (1, u "PRIVATE_USE"), (1, u "SURROGATE"), (1, u "DASH_PUNCTUATION"), (1, u "START_PUNCTUATION"), (1, u "END_PUNCTUATION"), (1, u "CONNECTOR_PUNCTUATION"), (1, u "OTHER_PUNCTUATION"), (1, u "MATH_SYMBOL"), (1, u "CURRENCY_SYMBOL"), (1, u "MODIFIER_SYMBOL"), (1, u "OTHER_SYMBOL"), (1, u "INITIAL_QUOTE_PUNCTUATION"), (1, u "FINAL_QUOTE_PUNCTUATION"), (1, u "ERROR"), (1, u "DIRECTIONALITY_UNDEFINED"), (0, u "DIRECTIONALITY_LEFT_TO_RIGHT"), (0, u "DIRECTIONALITY_RIGHT_TO_LEFT"), (0, u "DIRECTIONALITY_RIGHT_TO_LEFT_ARABIC"), (0, u "DIRECTIONALITY_EUROPEAN_NUMBER"), (0, u "DIRECTIONALITY_EUROPEAN_NUMBER_SEPARATOR"), (0, u "DIRECTIONALITY_EUROPEAN_NUMBER_TERMINATOR"), (0, u "DIRECTIONALITY_ARABIC_NUMBER"), (0, u "DIRECTIONALITY_COMMON_NUMBER_SEPARATOR"), (0, u "DIRECTIONALITY_NONSPACING_MARK"), (0, u "DIRECTIONALITY_BOUNDARY_NEUTRAL"), (0, u "DIRECTIONALITY_PARAGRAPH_SEPARATOR"), (0, u "DIRECTIONALITY_SEGMENT_SEPARATOR"), (0, u "DIRECTIONALITY_WHITESPACE"), (0, u "DIRECTIONALITY_OTHER_NEUTRALS"), (0, u "DIRECTIONALITY_LEFT_TO_RIGHT_EMBEDDING"), (0, u "DIRECTIONALITY_LEFT_TO_RIGHT_OVERRIDE"), (0, u "DIRECTIONALITY_RIGHT_TO_LEFT_EMBEDDING"), (0, u "DIRECTIONALITY_RIGHT_TO_LEFT_OVERRIDE"), (1, u "DIRECTIONALITY_POP_DIRECTIONAL_FORMAT"), (0, u "DIRECTIONALITY_LEFT_TO_RIGHT_ISOLATE"), (0, u "DIRECTIONALITY_RIGHT_TO_LEFT_ISOLATE"), (0, u "DIRECTIONALITY_FIRST_STRONG_ISOLATE"), (0, u "DIRECTIONALITY_POP_DIRECTIONAL_ISOLATE"), (0, u "MIN_HIGH_SURROGATE"), (0, u "MAX_HIGH_SURROGATE"), (1, u "MIN_LOW_SURROGATE"), (0, u "MAX_LOW_SURROGATE"), (1, u "MIN_SURROGATE"), (0, u "MAX_SURROGATE"), (0, u "MIN_SUPPLEMENTARY_CODE_POINT"), (0, u "MIN_CODE_POINT"), (0, u "MAX_CODE_POINT"), (1, u "serialVersionUID"), (0, u "J"), (2, u "SIZE"), (0, u "BYTES"), (24, u "isSurrogate"), (63, .class_ 596), (0, u "java/lang/Character$UnicodeScript"), (0, .class_ 598), (0, u "java/lang/Character$Subset")] 5

def k14c0 : Code := { maxStack := 2, maxLocals := 1, code := jdk_89_method_16_code, exceptionTable := #[], attributes := #[] }
def k14m0 : Method := { name := "isSurrogate", desc := "(C)Z", sig := { parameters := [.char], returnType := some .boolean }, accessFlags := 9, code := some k14c0 }
/-- java/lang/Character -/
def k14 : Class := { plain "java/lang/Character" (some 0) with
  accessFlags := 49
  interfaces := #[2, 3, 5]
  cf := some (fileOf pool14 1 #[.nestMembers #[48, 595, 307, 597]] #[{ accessFlags := 9, nameIndex := 531, descriptorIndex := 81, attributes := #[] }] 49 42 #[385, 387, 389] #[{ accessFlags := 25, nameIndex := 391, descriptorIndex := 392, attributes := #[] }, { accessFlags := 25, nameIndex := 395, descriptorIndex := 392, attributes := #[] }, { accessFlags := 25, nameIndex := 397, descriptorIndex := 22, attributes := #[] }, { accessFlags := 25, nameIndex := 399, descriptorIndex := 22, attributes := #[] }, { accessFlags := 25, nameIndex := 383, descriptorIndex := 384, attributes := #[] }, { accessFlags := 25, nameIndex := 403, descriptorIndex := 404, attributes := #[] }, { accessFlags := 25, nameIndex := 405, descriptorIndex := 404, attributes := #[] }, { accessFlags := 25, nameIndex := 407, descriptorIndex := 404, attributes := #[] }, { accessFlags := 25, nameIndex := 408, descriptorIndex := 404, attributes := #[] }, { accessFlags := 25, nameIndex := 410, descriptorIndex := 404, attributes := #[] }, { accessFlags := 25, nameIndex := 412, descriptorIndex := 404, attributes := #[] }, { accessFlags := 25, nameIndex := 414, descriptorIndex := 404, attributes := #[] }, { accessFlags := 25, nameIndex := 416, descriptorIndex := 404, attributes := #[] }, { accessFlags := 25, nameIndex := 418, descriptorIndex := 404, attributes := #[] }, { accessFlags := 25, nameIndex := 420, descriptorIndex := 404, attributes := #[] }, { accessFlags := 25, nameIndex := 422, descriptorIndex := 404, attributes := #[] }, { accessFlags := 25, nameIndex := 424, descriptorIndex := 404, attributes := #[] }, { accessFlags := 25, nameIndex := 426, descriptorIndex := 404, attributes := #[] }, { accessFlags := 25, nameIndex := 428, descriptorIndex := 404, attributes := #[] }, { accessFlags := 25, nameIndex := 430, descriptorIndex := 404, attributes := #[] }, { accessFlags := 25, nameIndex := 432, descriptorIndex := 404, attributes := #[] }, { accessFlags := 25, nameIndex := 434, descriptorIndex := 404, attributes := #[] }, { accessFlags := 25, nameIndex := 436, descriptorIndex := 404, attributes := #[] }, { accessFlags := 25, nameIndex := 438, descriptorIndex := 404, attributes := #[] }, { accessFlags := 25, nameIndex := 440, descriptorIndex := 404, attributes := #[] }, { accessFlags := 25, nameIndex := 442, descriptorIndex := 404, attributes := #[] }, { accessFlags := 25, nameIndex := 444, descriptorIndex := 404, attributes := #[] }, { accessFlags := 25, nameIndex := 446, descriptorIndex := 404, attributes := #[] }, { accessFlags := 25, nameIndex := 448, descriptorIndex := 404, attributes := #[] }, { accessFlags := 25, nameIndex := 450, descriptorIndex := 404, attributes := #[] }, { accessFlags := 25, nameIndex := 452, descriptorIndex := 404, attributes := #[] }, { accessFlags := 25, nameIndex := 454, descriptorIndex := 404, attributes := #[] }, { accessFlags := 25, nameIndex := 456, descriptorIndex := 404, attributes := #[] }, { accessFlags := 25, nameIndex := 458, descriptorIndex := 404, attributes := #[] }, { accessFlags := 25, nameIndex := 460, descriptorIndex := 404, attributes := #[] }, { accessFlags := 24, nameIndex := 462, descriptorIndex := 392, attributes := #[] }, { accessFlags := 25, nameIndex := 464, descriptorIndex := 404, attributes := #[] }, { accessFlags := 25, nameIndex := 465, descriptorIndex := 404, attributes := #[] }, { accessFlags := 25, nameIndex := 466, descriptorIndex := 404, attributes := #[] }, { accessFlags := 25, nameIndex := 467, descriptorIndex := 404, attributes := #[] }, { accessFlags := 25, nameIndex := 468, descriptorIndex := 404, attributes := #[] }, { accessFlags := 25, nameIndex := 469, descriptorIndex := 404, attributes := #[] }, { accessFlags := 25, nameIndex := 470, descriptorIndex := 404, attributes := #[] }, { accessFlags := 25, nameIndex := 471, descriptorIndex := 404, attributes := #[] }, { accessFlags := 25, nameIndex := 472, descriptorIndex := 404, attributes := #[] }, { accessFlags := 25, nameIndex := 473, descriptorIndex := 404, attributes := #[] }, { accessFlags := 25, nameIndex := 474, descriptorIndex := 404, attributes := #[] }, { accessFlags := 25, nameIndex := 475, descriptorIndex := 404, attributes := #[] }, { accessFlags := 25, nameIndex := 476, descriptorIndex := 404, attributes := #[] }, { accessFlags := 25, nameIndex := 477, descriptorIndex := 404, attributes := #[] }, { accessFlags := 25, nameIndex := 478, descriptorIndex := 404, attributes := #[] }, { accessFlags := 25, nameIndex := 479, descriptorIndex := 404, attributes := #[] }, { accessFlags := 25, nameIndex := 480, descriptorIndex := 404, attributes := #[] }, { accessFlags := 25, nameIndex := 481, descriptorIndex := 404, attributes := #[] }, { accessFlags := 25, nameIndex := 482, descriptorIndex := 404, attributes := #[] }, { accessFlags := 25, nameIndex := 484, descriptorIndex := 404, attributes := #[] }, { accessFlags := 25, nameIndex := 485, descriptorIndex := 404, attributes := #[] }, { accessFlags := 25, nameIndex := 486, descriptorIndex := 404, attributes := #[] }, { accessFlags := 25, nameIndex := 487, descriptorIndex := 404, attributes := #[] }, { accessFlags := 25, nameIndex := 488, descriptorIndex := 404, attributes := #[] }, { accessFlags := 25, nameIndex := 489, descriptorIndex := 22, attributes := #[] }, { accessFlags := 25, nameIndex := 490, descriptorIndex := 22, attributes := #[] }, { accessFlags := 25, nameIndex := 492, descriptorIndex := 22, attributes := #[] }, { accessFlags := 25, nameIndex := 493, descriptorIndex := 22, attributes := #[] }, { accessFlags := 25, nameIndex := 495, descriptorIndex := 22, attributes := #[] }, { accessFlags := 25, nameIndex := 496, descriptorIndex := 22, attributes := #[] }, { accessFlags := 25, nameIndex := 497, descriptorIndex := 392, attributes := #[] }, { accessFlags := 25, nameIndex := 498, descriptorIndex := 392, attributes := #[] }, { accessFlags := 25, nameIndex := 499, descriptorIndex := 392, attributes := #[] }, { accessFlags := 18, nameIndex := 21, descriptorIndex := 22, attributes := #[] }, { accessFlags := 26, nameIndex := 501, descriptorIndex := 502, attributes := #[] }, { accessFlags := 25, nameIndex := 505, descriptorIndex := 392, attributes := #[] }, { accessFlags := 25, nameIndex := 506, descriptorIndex := 392, attributes := #[] }, { accessFlags := 4120, nameIndex := 284, descriptorIndex := 285, attributes := #[] }])
  fields := #[{ name := "MIN_RADIX", type := .int, accessFlags := 25, slot := 0, constantValue := 0 }, { name := "MAX_RADIX", type := .int, accessFlags := 25, slot := 1, constantValue := 0 }, { name := "MIN_VALUE", type := .char, accessFlags := 25, slot := 2, constantValue := 0 }, { name := "MAX_VALUE", type := .char, accessFlags := 25, slot := 3, constantValue := 0 }, { name := "TYPE", type := (.object "java/lang/Class"), accessFlags := 25, slot := 4, constantValue := 0 }, { name := "UNASSIGNED", type := .byte, accessFlags := 25, slot := 5, constantValue := 0 }, { name := "UPPERCASE_LETTER", type := .byte, accessFlags := 25, slot := 6, constantValue := 0 }, { name := "LOWERCASE_LETTER", type := .byte, accessFlags := 25, slot := 7, constantValue := 0 }, { name := "TITLECASE_LETTER", type := .byte, accessFlags := 25, slot := 8, constantValue := 0 }, { name := "MODIFIER_LETTER", type := .byte, accessFlags := 25, slot := 9, constantValue := 0 }, { name := "OTHER_LETTER", type := .byte, accessFlags := 25, slot := 10, constantValue := 0 }, { name := "NON_SPACING_MARK", type := .byte, accessFlags := 25, slot := 11, constantValue := 0 }, { name := "ENCLOSING_MARK", type := .byte, accessFlags := 25, slot := 12, constantValue := 0 }, { name := "COMBINING_SPACING_MARK", type := .byte, accessFlags := 25, slot := 13, constantValue := 0 }, { name := "DECIMAL_DIGIT_NUMBER", type := .byte, accessFlags := 25, slot := 14, constantValue := 0 }, { name := "LETTER_NUMBER", type := .byte, accessFlags := 25, slot := 15, constantValue := 0 }, { name := "OTHER_NUMBER", type := .byte, accessFlags := 25, slot := 16, constantValue := 0 }, { name := "SPACE_SEPARATOR", type := .byte, accessFlags := 25, slot := 17, constantValue := 0 }, { name := "LINE_SEPARATOR", type := .byte, accessFlags := 25, slot := 18, constantValue := 0 }, { name := "PARAGRAPH_SEPARATOR", type := .byte, accessFlags := 25, slot := 19, constantValue := 0 }, { name := "CONTROL", type := .byte, accessFlags := 25, slot := 20, constantValue := 0 }, { name := "FORMAT", type := .byte, accessFlags := 25, slot := 21, constantValue := 0 }, { name := "PRIVATE_USE", type := .byte, accessFlags := 25, slot := 22, constantValue := 0 }, { name := "SURROGATE", type := .byte, accessFlags := 25, slot := 23, constantValue := 0 }, { name := "DASH_PUNCTUATION", type := .byte, accessFlags := 25, slot := 24, constantValue := 0 }, { name := "START_PUNCTUATION", type := .byte, accessFlags := 25, slot := 25, constantValue := 0 }, { name := "END_PUNCTUATION", type := .byte, accessFlags := 25, slot := 26, constantValue := 0 }, { name := "CONNECTOR_PUNCTUATION", type := .byte, accessFlags := 25, slot := 27, constantValue := 0 }, { name := "OTHER_PUNCTUATION", type := .byte, accessFlags := 25, slot := 28, constantValue := 0 }, { name := "MATH_SYMBOL", type := .byte, accessFlags := 25, slot := 29, constantValue := 0 }, { name := "CURRENCY_SYMBOL", type := .byte, accessFlags := 25, slot := 30, constantValue := 0 }, { name := "MODIFIER_SYMBOL", type := .byte, accessFlags := 25, slot := 31, constantValue := 0 }, { name := "OTHER_SYMBOL", type := .byte, accessFlags := 25, slot := 32, constantValue := 0 }, { name := "INITIAL_QUOTE_PUNCTUATION", type := .byte, accessFlags := 25, slot := 33, constantValue := 0 }, { name := "FINAL_QUOTE_PUNCTUATION", type := .byte, accessFlags := 25, slot := 34, constantValue := 0 }, { name := "ERROR", type := .int, accessFlags := 24, slot := 35, constantValue := 0 }, { name := "DIRECTIONALITY_UNDEFINED", type := .byte, accessFlags := 25, slot := 36, constantValue := 0 }, { name := "DIRECTIONALITY_LEFT_TO_RIGHT", type := .byte, accessFlags := 25, slot := 37, constantValue := 0 }, { name := "DIRECTIONALITY_RIGHT_TO_LEFT", type := .byte, accessFlags := 25, slot := 38, constantValue := 0 }, { name := "DIRECTIONALITY_RIGHT_TO_LEFT_ARABIC", type := .byte, accessFlags := 25, slot := 39, constantValue := 0 }, { name := "DIRECTIONALITY_EUROPEAN_NUMBER", type := .byte, accessFlags := 25, slot := 40, constantValue := 0 }, { name := "DIRECTIONALITY_EUROPEAN_NUMBER_SEPARATOR", type := .byte, accessFlags := 25, slot := 41, constantValue := 0 }, { name := "DIRECTIONALITY_EUROPEAN_NUMBER_TERMINATOR", type := .byte, accessFlags := 25, slot := 42, constantValue := 0 }, { name := "DIRECTIONALITY_ARABIC_NUMBER", type := .byte, accessFlags := 25, slot := 43, constantValue := 0 }, { name := "DIRECTIONALITY_COMMON_NUMBER_SEPARATOR", type := .byte, accessFlags := 25, slot := 44, constantValue := 0 }, { name := "DIRECTIONALITY_NONSPACING_MARK", type := .byte, accessFlags := 25, slot := 45, constantValue := 0 }, { name := "DIRECTIONALITY_BOUNDARY_NEUTRAL", type := .byte, accessFlags := 25, slot := 46, constantValue := 0 }, { name := "DIRECTIONALITY_PARAGRAPH_SEPARATOR", type := .byte, accessFlags := 25, slot := 47, constantValue := 0 }, { name := "DIRECTIONALITY_SEGMENT_SEPARATOR", type := .byte, accessFlags := 25, slot := 48, constantValue := 0 }, { name := "DIRECTIONALITY_WHITESPACE", type := .byte, accessFlags := 25, slot := 49, constantValue := 0 }, { name := "DIRECTIONALITY_OTHER_NEUTRALS", type := .byte, accessFlags := 25, slot := 50, constantValue := 0 }, { name := "DIRECTIONALITY_LEFT_TO_RIGHT_EMBEDDING", type := .byte, accessFlags := 25, slot := 51, constantValue := 0 }, { name := "DIRECTIONALITY_LEFT_TO_RIGHT_OVERRIDE", type := .byte, accessFlags := 25, slot := 52, constantValue := 0 }, { name := "DIRECTIONALITY_RIGHT_TO_LEFT_EMBEDDING", type := .byte, accessFlags := 25, slot := 53, constantValue := 0 }, { name := "DIRECTIONALITY_RIGHT_TO_LEFT_OVERRIDE", type := .byte, accessFlags := 25, slot := 54, constantValue := 0 }, { name := "DIRECTIONALITY_POP_DIRECTIONAL_FORMAT", type := .byte, accessFlags := 25, slot := 55, constantValue := 0 }, { name := "DIRECTIONALITY_LEFT_TO_RIGHT_ISOLATE", type := .byte, accessFlags := 25, slot := 56, constantValue := 0 }, { name := "DIRECTIONALITY_RIGHT_TO_LEFT_ISOLATE", type := .byte, accessFlags := 25, slot := 57, constantValue := 0 }, { name := "DIRECTIONALITY_FIRST_STRONG_ISOLATE", type := .byte, accessFlags := 25, slot := 58, constantValue := 0 }, { name := "DIRECTIONALITY_POP_DIRECTIONAL_ISOLATE", type := .byte, accessFlags := 25, slot := 59, constantValue := 0 }, { name := "MIN_HIGH_SURROGATE", type := .char, accessFlags := 25, slot := 60, constantValue := 0 }, { name := "MAX_HIGH_SURROGATE", type := .char, accessFlags := 25, slot := 61, constantValue := 0 }, { name := "MIN_LOW_SURROGATE", type := .char, accessFlags := 25, slot := 62, constantValue := 0 }, { name := "MAX_LOW_SURROGATE", type := .char, accessFlags := 25, slot := 63, constantValue := 0 }, { name := "MIN_SURROGATE", type := .char, accessFlags := 25, slot := 64, constantValue := 0 }, { name := "MAX_SURROGATE", type := .char, accessFlags := 25, slot := 65, constantValue := 0 }, { name := "MIN_SUPPLEMENTARY_CODE_POINT", type := .int, accessFlags := 25, slot := 66, constantValue := 0 }, { name := "MIN_CODE_POINT", type := .int, accessFlags := 25, slot := 67, constantValue := 0 }, { name := "MAX_CODE_POINT", type := .int, accessFlags := 25, slot := 68, constantValue := 0 }, { name := "value", type := .char, accessFlags := 18, slot := 0, constantValue := 0 }, { name := "serialVersionUID", type := .long, accessFlags := 26, slot := 69, constantValue := 0 }, { name := "SIZE", type := .int, accessFlags := 25, slot := 70, constantValue := 0 }, { name := "BYTES", type := .int, accessFlags := 25, slot := 71, constantValue := 0 }, { name := "$assertionsDisabled", type := .boolean, accessFlags := 4120, slot := 72, constantValue := 0 }]
  methods := #[k14m0]
  instanceTypes := #[.char]
  staticTypes := #[.int, .int, .char, .char, (.object "java/lang/Class"), .byte, .byte, .byte, .byte, .byte, .byte, .byte, .byte, .byte, .byte, .byte, .byte, .byte, .byte, .byte, .byte, .byte, .byte, .byte, .byte, .byte, .byte, .byte, .byte, .byte, .byte, .byte, .byte, .byte, .byte, .int, .byte, .byte, .byte, .byte, .byte, .byte, .byte, .byte, .byte, .byte, .byte, .byte, .byte, .byte, .byte, .byte, .byte, .byte, .byte, .byte, .byte, .byte, .byte, .byte, .char, .char, .char, .char, .char, .char, .int, .int, .int, .long, .int, .int, .boolean]
  resolved := Array.replicate 604 none
  statics := none }

def pool15 : Array CpInfo := pool [(1, .class_ 2), (0, u "java/lang/String"), (1, .class_ 6), (1, u "java/lang/Object"), (0, u "<init>"), (0, u "()V"), (0, .methodref 1 10), (0, .nameAndType 11 12), (0, u "checkIndex"), (0, u "(II)V"), (1, .class_ 16), (1, u "java/lang/StringLatin1"), (36, u "([BI)C"), (67, u "$assertionsDisabled"), (0, u "Z"), (98, .class_ 223), (1, u "java/lang/StringLatin1$LinesSpliterator"), (28, u "charAt"), (137, .class_ 391), (0, u "java/lang/StringLatin1$CharsSpliterator")] 3

def k15m0 : Method := { name := "<init>", desc := "()V", sig := { parameters := [], returnType := none }, accessFlags := 0, code := none }
def k15c1 : Code := { maxStack := 2, maxLocals := 2, code := jdk_43_method_2_code, exceptionTable := #[], attributes := #[] }
def k15m1 : Method := { name := "charAt", desc := "([BI)C", sig := { parameters := [(.array .byte), .int], returnType := some .char }, accessFlags := 9, code := some k15c1 }
/-- java/lang/StringLatin1 -/
def k15 : Class := { plain "java/lang/StringLatin1" (some 0) with
  accessFlags := 48
  interfaces := #[]
  cf := some (fileOf pool15 14 #[.nestMembers #[390, 221]] #[{ accessFlags := 0, nameIndex := 7, descriptorIndex := 8, attributes := #[] }, { accessFlags := 9, nameIndex := 252, descriptorIndex := 53, attributes := #[] }] 48 4 #[] #[{ accessFlags := 4120, nameIndex := 121, descriptorIndex := 122, attributes := #[] }])
  fields := #[{ name := "$assertionsDisabled", type := .boolean, accessFlags := 4120, slot := 0, constantValue := 0 }]
  methods := #[k15m0, k15m1]
  instanceTypes := #[]
  staticTypes := #[.boolean]
  resolved := Array.replicate 395 none
  statics := none }

def pool16 : Array CpInfo := pool [(9, u "<init>"), (6, .class_ 18), (1, u "java/lang/Object"), (0, u "()V"), (1, .class_ 23), (1, u "jdk/internal/util/ArraysSupport"), (0, u "LOG2_ARRAY_LONG_INDEX_SCALE"), (0, u "I"), (2, u "U"), (0, u "Ljdk/internal/misc/Unsafe;"), (8, u "BIG_ENDIAN"), (0, u "Z"), (8, u "LOG2_BYTE_BIT_SIZE"), (4, u "LOG2_ARRAY_INT_INDEX_SCALE"), (54, u "JLA"), (0, u "Ljdk/internal/access/JavaLangAccess;"), (11, u "LOG2_ARRAY_BOOLEAN_INDEX_SCALE"), (9, u "LOG2_ARRAY_BYTE_INDEX_SCALE"), (5, u "LOG2_ARRAY_CHAR_INDEX_SCALE"), (5, u "LOG2_ARRAY_SHORT_INDEX_SCALE"), (18, u "LOG2_ARRAY_FLOAT_INDEX_SCALE"), (24, u "LOG2_ARRAY_DOUBLE_INDEX_SCALE"), (89, u "T_BOOLEAN"), (2, u "T_CHAR"), (1, u "T_FLOAT"), (1, u "T_DOUBLE"), (1, u "T_BYTE"), (1, u "T_SHORT"), (1, u "T_INT"), (1, u "T_LONG"), (1, u "SOFT_MAX_ARRAY_LENGTH")] 83

def k16m0 : Method := { name := "<init>", desc := "()V", sig := { parameters := [], returnType := none }, accessFlags := 2, code := none }
/-- jdk/internal/util/ArraysSupport -/
def k16 : Class := { plain "jdk/internal/util/ArraysSupport" (some 0) with
  accessFlags := 33
  interfaces := #[]
  cf := some (fileOf pool16 21 #[] #[{ accessFlags := 2, nameIndex := 9, descriptorIndex := 19, attributes := #[] }] 33 16 #[] #[{ accessFlags := 24, nameIndex := 28, descriptorIndex := 29, attributes := #[] }, { accessFlags := 26, nameIndex := 38, descriptorIndex := 39, attributes := #[] }, { accessFlags := 25, nameIndex := 121, descriptorIndex := 25, attributes := #[] }, { accessFlags := 25, nameIndex := 131, descriptorIndex := 25, attributes := #[] }, { accessFlags := 25, nameIndex := 137, descriptorIndex := 25, attributes := #[] }, { accessFlags := 25, nameIndex := 143, descriptorIndex := 25, attributes := #[] }, { accessFlags := 25, nameIndex := 53, descriptorIndex := 25, attributes := #[] }, { accessFlags := 25, nameIndex := 24, descriptorIndex := 25, attributes := #[] }, { accessFlags := 25, nameIndex := 162, descriptorIndex := 25, attributes := #[] }, { accessFlags := 25, nameIndex := 187, descriptorIndex := 25, attributes := #[] }, { accessFlags := 26, nameIndex := 48, descriptorIndex := 25, attributes := #[] }, { accessFlags := 25, nameIndex := 277, descriptorIndex := 25, attributes := #[] }, { accessFlags := 25, nameIndex := 280, descriptorIndex := 25, attributes := #[] }, { accessFlags := 25, nameIndex := 282, descriptorIndex := 25, attributes := #[] }, { accessFlags := 25, nameIndex := 284, descriptorIndex := 25, attributes := #[] }, { accessFlags := 25, nameIndex := 286, descriptorIndex := 25, attributes := #[] }, { accessFlags := 25, nameIndex := 288, descriptorIndex := 25, attributes := #[] }, { accessFlags := 25, nameIndex := 290, descriptorIndex := 25, attributes := #[] }, { accessFlags := 25, nameIndex := 292, descriptorIndex := 25, attributes := #[] }, { accessFlags := 26, nameIndex := 108, descriptorIndex := 109, attributes := #[] }, { accessFlags := 25, nameIndex := 294, descriptorIndex := 25, attributes := #[] }])
  fields := #[{ name := "U", type := (.object "jdk/internal/misc/Unsafe"), accessFlags := 24, slot := 0, constantValue := 0 }, { name := "BIG_ENDIAN", type := .boolean, accessFlags := 26, slot := 1, constantValue := 0 }, { name := "LOG2_ARRAY_BOOLEAN_INDEX_SCALE", type := .int, accessFlags := 25, slot := 2, constantValue := 0 }, { name := "LOG2_ARRAY_BYTE_INDEX_SCALE", type := .int, accessFlags := 25, slot := 3, constantValue := 0 }, { name := "LOG2_ARRAY_CHAR_INDEX_SCALE", type := .int, accessFlags := 25, slot := 4, constantValue := 0 }, { name := "LOG2_ARRAY_SHORT_INDEX_SCALE", type := .int, accessFlags := 25, slot := 5, constantValue := 0 }, { name := "LOG2_ARRAY_INT_INDEX_SCALE", type := .int, accessFlags := 25, slot := 6, constantValue := 0 }, { name := "LOG2_ARRAY_LONG_INDEX_SCALE", type := .int, accessFlags := 25, slot := 7, constantValue := 0 }, { name := "LOG2_ARRAY_FLOAT_INDEX_SCALE", type := .int, accessFlags := 25, slot := 8, constantValue := 0 }, { name := "LOG2_ARRAY_DOUBLE_INDEX_SCALE", type := .int, accessFlags := 25, slot := 9, constantValue := 0 }, { name := "LOG2_BYTE_BIT_SIZE", type := .int, accessFlags := 26, slot := 10, constantValue := 0 }, { name := "T_BOOLEAN", type := .int, accessFlags := 25, slot := 11, constantValue := 0 }, { name := "T_CHAR", type := .int, accessFlags := 25, slot := 12, constantValue := 0 }, { name := "T_FLOAT", type := .int, accessFlags := 25, slot := 13, constantValue := 0 }, { name := "T_DOUBLE", type := .int, accessFlags := 25, slot := 14, constantValue := 0 }, { name := "T_BYTE", type := .int, accessFlags := 25, slot := 15, constantValue := 0 }, { name := "T_SHORT", type := .int, accessFlags := 25, slot := 16, constantValue := 0 }, { name := "T_INT", type := .int, accessFlags := 25, slot := 17, constantValue := 0 }, { name := "T_LONG", type := .int, accessFlags := 25, slot := 18, constantValue := 0 }, { name := "JLA", type := (.object "jdk/internal/access/JavaLangAccess"), accessFlags := 26, slot := 19, constantValue := 0 }, { name := "SOFT_MAX_ARRAY_LENGTH", type := .int, accessFlags := 25, slot := 20, constantValue := 0 }]
  methods := #[k16m0]
  instanceTypes := #[]
  staticTypes := #[(.object "jdk/internal/misc/Unsafe"), .boolean, .int, .int, .int, .int, .int, .int, .int, .int, .int, .int, .int, .int, .int, .int, .int, .int, .int, (.object "jdk/internal/access/JavaLangAccess"), .int]
  resolved := Array.replicate 378 none
  statics := none }

def pool17 : Array CpInfo := pool [(1, u "java/lang/Cloneable"), (0, .class_ 1), (0, u "java/lang/Object"), (0, .class_ 3)] 3

/-- java/lang/Cloneable -/
def k17 : Class := { plain "java/lang/Cloneable" (some 0) with
  accessFlags := 1537
  interfaces := #[]
  cf := some (fileOf pool17 2 #[] #[] 1537 4 #[] #[])
  fields := #[]
  methods := #[]
  instanceTypes := #[]
  staticTypes := #[]
  resolved := Array.replicate 8 none
  statics := none }

/-- the primitive byte -/
def k18 : Class := { plain "byte" none with kind := .primitive 'B', accessFlags := 0x411 }
/-- [B -/
def k19 : Class := { plain "[B" (some 0) with kind := .array 18 .byte, interfaces := #[17, 2], accessFlags := 1041 }

/-- the primitive char -/
def k20 : Class := { plain "char" none with kind := .primitive 'C', accessFlags := 0x411 }
/-- [C -/
def k21 : Class := { plain "[C" (some 0) with kind := .array 20 .char, interfaces := #[17, 2], accessFlags := 1041 }

/-- the primitive int -/
def k22 : Class := { plain "int" none with kind := .primitive 'I', accessFlags := 0x411 }
/-- [I -/
def k23 : Class := { plain "[I" (some 0) with kind := .array 22 .int, interfaces := #[17, 2], accessFlags := 1041 }

def heap : Heap := #[{ cls := 7, slots := #[.long 0, .int 1, .null, .int 0, .null, .int 0, .int 0], vm := .statics 7 },
  { cls := 8, slots := #[.int 0, .int 8, .int 0, .int 1], vm := .statics 8 },
  { cls := 13, slots := #[.null, .null, .null], vm := .statics 13 }]
def classes : Array Class := #[k0, k1, k2, k3, k4, k5, k6, k7, k8, k9, k10, k11, k12, k13, k14, k15, k16, k17, k18, k19, k20, k21, k22, k23]
def interned : List (Array UInt16 × Addr) := []
def slotsUsed : Nat := 14
def theMethod : MethodId := ⟨1, 4⟩
def args0 : Array Value := #[.int 5, .int 3, .int 1]
def aboutOver (below : List Frame) : State where
  vm := { classes := classes, interned := interned.toArray }
  heap := heap
  slotsUsed := slotsUsed
  threads := #[{ frames := .invoking theMethod args0 :: below }]
def below0 : List Frame := [.native { method := ⟨0, 0⟩, args := #[] }]
def about1 : State := aboutOver below0
def p0 : Program := .bare "" "" ""
def e0 : Env := launch0.env 0 0 0
theorem w_frames : about1.frames = Frame.invoking theMethod args0 :: below0 := rfl
set_option maxRecDepth 65536 in
theorem w_args : argsFit about1.vm theMethod args0 = true := by decide +kernel
set_option maxRecDepth 65536 in
theorem w_heap : heapFits about1 = true := by decide +kernel
set_option maxRecDepth 65536 in
theorem w_runnable : about1.curStatus? = some .runnable := by decide +kernel
set_option maxRecDepth 65536 in
theorem w_alone : about1.alone = true := by decide +kernel
set_option maxRecDepth 65536 in
theorem w_named : about1.methodNamed? x = some theMethod := by decide +kernel
set_option maxRecDepth 65536 in
theorem w_hears : about1.hears theMethod below0 = true := by decide +kernel
set_option maxRecDepth 65536 in
theorem w_ripe : about1.ripe theMethod args0 below0 = true := by decide +kernel
theorem w_running : about1.status = .running := rfl
set_option maxRecDepth 65536 in
theorem w_room : about1.hasRoom e0.platform room_1 = true :=
  launch0.hasRoom_least _ room_1 (by decide +kernel) (by decide +kernel) (by decide +kernel) (by decide +kernel) (by decide +kernel) (by decide +kernel)
theorem allAtoms_all (ts : List Jvm.Cond) (a : Array Jvm.Value) (st : Jvm.State) : (allAtoms ts).before a st = ts.all (fun c => c.before a st) := by
  induction ts with
  | nil => rfl
  | cons c t ih =>
    show (Jvm.Cond.and c (allAtoms t)).before a st = _
    rw [Jvm.Cond.before_and, ih, List.all_cons]
def words1 : List Jvm.Cond := Jvm.Cond.code x code maxLocals ret :: tables_1
/-- a 'code' word, met by the world's own term for the bytes: nothing is compared byte by byte -/
theorem code_word {y : MethodName} {bytes : ByteArray} {mx : Nat} {rt : Option FieldType} {a : Array Value} {s : State} {m : MethodId} {meth : Method} {c : Code} (h1 : s.methodNamed? y = some m) (h2 : s.vm.method? m = some meth) (h3 : meth.code = some c) (h4 : c.code = bytes)
    (h5 : (c.maxLocals == mx && c.exceptionTable.isEmpty && decide (c.maxStack ≤ mostOperands) && decide (meth.sig.returnType = rt) && !meth.locks && decide (parseMethodDescriptor y.desc = some meth.sig)) = true) : (Jvm.Cond.code y bytes mx rt).before a s = true := by
  simp only [Bool.and_eq_true, beq_iff_eq, Bool.not_eq_true', decide_eq_true_eq] at h5
  obtain ⟨⟨⟨⟨⟨g1, g2⟩, g3⟩, g4⟩, g5⟩, g6⟩ := h5
  simp [Cond.before, Cond.holds, Cond.value, h1, h2, h3, h4, g1, g2, g3, g4, g5, g6]
def isCode : Jvm.Cond → Bool
  | .code _ _ _ _ => true
  | _ => false
theorem all_split {L : List Jvm.Cond} {P : Jvm.Cond → Bool} (h1 : L.all (fun c => isCode c || P c) = true) (h2 : ∀ c ∈ L.filter isCode, P c = true) : L.all P = true := by
  refine List.all_eq_true.mpr fun c hc => ?_
  have h := List.all_eq_true.mp h1 c hc
  rcases Bool.eq_false_or_eq_true (isCode c) with hi | hi
  · exact h2 c (List.mem_filter.mpr ⟨hc, hi⟩)
  · simpa [hi] using h
set_option maxRecDepth 65536 in
theorem w_c0 : (Jvm.Cond.code x code maxLocals ret).before args0 about1 = true := code_word (m := ⟨1, 4⟩) (meth := k1m4) (c := k1c4) (by decide +kernel) rfl rfl rfl (by decide +kernel)
set_option maxRecDepth 65536 in
theorem w_c1 : (Jvm.Cond.code ({ cls := "com/example/topics_into_queries/topicsintoqueries/CodePointsComparePinLaw", name := "str", desc := "(ICC)Ljava/lang/String;" } : Jvm.MethodName) method_4_code (3 : Nat) (Option.some (Jvm.ClassFile.FieldType.object "java/lang/String"))).before args0 about1 = true := code_word (m := ⟨1, 3⟩) (meth := k1m3) (c := k1c3) (by decide +kernel) rfl rfl rfl (by decide +kernel)
set_option maxRecDepth 65536 in
theorem w_c2 : (Jvm.Cond.code ({ cls := "java/lang/String", name := "<init>", desc := "([C)V" } : Jvm.MethodName) jdk_42_method_3_code (2 : Nat) (Option.none : Option Jvm.ClassFile.FieldType)).before args0 about1 = true := code_word (m := ⟨7, 1⟩) (meth := k7m1) (c := k7c1) (by decide +kernel) rfl rfl rfl (by decide +kernel)
set_option maxRecDepth 65536 in
theorem w_c3 : (Jvm.Cond.code ({ cls := "java/lang/String", name := "<init>", desc := "([CIILjava/lang/Void;)V" } : Jvm.MethodName) jdk_42_method_149_code (6 : Nat) (Option.none : Option Jvm.ClassFile.FieldType)).before args0 about1 = true := code_word (m := ⟨7, 4⟩) (meth := k7m4) (c := k7c4) (by decide +kernel) rfl rfl rfl (by decide +kernel)
set_option maxRecDepth 65536 in
theorem w_c4 : (Jvm.Cond.code ({ cls := "java/lang/Object", name := "<init>", desc := "()V" } : Jvm.MethodName) object_method_1_code (1 : Nat) (Option.none : Option Jvm.ClassFile.FieldType)).before args0 about1 = true := code_word (m := ⟨0, 0⟩) (meth := k0m0) (c := k0c0) (by decide +kernel) rfl rfl rfl (by decide +kernel)
set_option maxRecDepth 65536 in
theorem w_c5 : (Jvm.Cond.code ({ cls := "java/lang/StringUTF16", name := "compress", desc := "([CII)[B" } : Jvm.MethodName) jdk_52_method_16_code (6 : Nat) (Option.some (Jvm.ClassFile.FieldType.array Jvm.ClassFile.FieldType.byte))).before args0 about1 = true := code_word (m := ⟨8, 8⟩) (meth := k8m8) (c := k8c8) (by decide +kernel) rfl rfl rfl (by decide +kernel)
set_option maxRecDepth 65536 in
theorem w_c6 : (Jvm.Cond.code ({ cls := "java/lang/StringUTF16", name := "compress", desc := "([CI[BII)I" } : Jvm.MethodName) jdk_52_method_21_code (7 : Nat) (Option.some Jvm.ClassFile.FieldType.int)).before args0 about1 = true := code_word (m := ⟨8, 9⟩) (meth := k8m9) (c := k8c9) (by decide +kernel) rfl rfl rfl (by decide +kernel)
set_option maxRecDepth 65536 in
theorem w_c7 : (Jvm.Cond.code ({ cls := "java/lang/StringUTF16", name := "coderFromArrayLen", desc := "([BI)B" } : Jvm.MethodName) jdk_52_method_15_code (2 : Nat) (Option.some Jvm.ClassFile.FieldType.byte)).before args0 about1 = true := code_word (m := ⟨8, 7⟩) (meth := k8m7) (c := k8c7) (by decide +kernel) rfl rfl rfl (by decide +kernel)
set_option maxRecDepth 65536 in
theorem w_c8 : (Jvm.Cond.code ({ cls := "java/lang/Math", name := "min", desc := "(II)I" } : Jvm.MethodName) jdk_29_method_69_code (2 : Nat) (Option.some Jvm.ClassFile.FieldType.int)).before args0 about1 = true := code_word (m := ⟨9, 1⟩) (meth := k9m1) (c := k9c1) (by decide +kernel) rfl rfl rfl (by decide +kernel)
set_option maxRecDepth 65536 in
theorem w_c9 : (Jvm.Cond.code ({ cls := "com/example/topics_into_queries/topicsintoqueries/CodePointsComparePinLaw", name := "sgn", desc := "(I)I" } : Jvm.MethodName) method_3_code (1 : Nat) (Option.some Jvm.ClassFile.FieldType.int)).before args0 about1 = true := code_word (m := ⟨1, 2⟩) (meth := k1m2) (c := k1c2) (by decide +kernel) rfl rfl rfl (by decide +kernel)
set_option maxRecDepth 65536 in
theorem w_c10 : (Jvm.Cond.code ({ cls := "com/example/topics_into_queries/topicsintoqueries/CodePoints", name := "compare", desc := "(Ljava/lang/String;Ljava/lang/String;)I" } : Jvm.MethodName) prog_1_method_2_code (4 : Nat) (Option.some Jvm.ClassFile.FieldType.int)).before args0 about1 = true := code_word (m := ⟨10, 1⟩) (meth := k10m1) (c := k10c1) (by decide +kernel) rfl rfl rfl (by decide +kernel)
set_option maxRecDepth 65536 in
theorem w_c11 : (Jvm.Cond.code ({ cls := "java/lang/String", name := "length", desc := "()I" } : Jvm.MethodName) jdk_42_method_54_code (1 : Nat) (Option.some Jvm.ClassFile.FieldType.int)).before args0 about1 = true := code_word (m := ⟨7, 2⟩) (meth := k7m2) (c := k7c2) (by decide +kernel) rfl rfl rfl (by decide +kernel)
set_option maxRecDepth 65536 in
theorem w_c12 : (Jvm.Cond.code ({ cls := "java/lang/String", name := "coder", desc := "()B" } : Jvm.MethodName) jdk_42_method_152_code (1 : Nat) (Option.some Jvm.ClassFile.FieldType.byte)).before args0 about1 = true := code_word (m := ⟨7, 5⟩) (meth := k7m5) (c := k7c5) (by decide +kernel) rfl rfl rfl (by decide +kernel)
set_option maxRecDepth 65536 in
theorem w_c13 : (Jvm.Cond.code ({ cls := "java/lang/Integer", name := "compare", desc := "(II)I" } : Jvm.MethodName) jdk_33_method_40_code (2 : Nat) (Option.some Jvm.ClassFile.FieldType.int)).before args0 about1 = true := code_word (m := ⟨12, 0⟩) (meth := k12m0) (c := k12c0) (by decide +kernel) rfl rfl rfl (by decide +kernel)
set_option maxRecDepth 65536 in
theorem w_c14 : (Jvm.Cond.code ({ cls := "java/lang/StringUTF16", name := "toBytes", desc := "([CII)[B" } : Jvm.MethodName) jdk_52_method_14_code (5 : Nat) (Option.some (Jvm.ClassFile.FieldType.array Jvm.ClassFile.FieldType.byte))).before args0 about1 = true := code_word (m := ⟨8, 6⟩) (meth := k8m6) (c := k8c6) (by decide +kernel) rfl rfl rfl (by decide +kernel)
set_option maxRecDepth 65536 in
theorem w_c15 : (Jvm.Cond.code ({ cls := "java/lang/StringUTF16", name := "newBytesFor", desc := "(I)[B" } : Jvm.MethodName) jdk_52_method_2_code (1 : Nat) (Option.some (Jvm.ClassFile.FieldType.array Jvm.ClassFile.FieldType.byte))).before args0 about1 = true := code_word (m := ⟨8, 1⟩) (meth := k8m1) (c := k8c1) (by decide +kernel) rfl rfl rfl (by decide +kernel)
set_option maxRecDepth 65536 in
theorem w_c16 : (Jvm.Cond.code ({ cls := "java/lang/StringUTF16", name := "newBytesLength", desc := "(I)I" } : Jvm.MethodName) jdk_52_method_3_code (1 : Nat) (Option.some Jvm.ClassFile.FieldType.int)).before args0 about1 = true := code_word (m := ⟨8, 2⟩) (meth := k8m2) (c := k8c2) (by decide +kernel) rfl rfl rfl (by decide +kernel)
set_option maxRecDepth 65536 in
theorem w_c17 : (Jvm.Cond.code ({ cls := "java/lang/StringUTF16", name := "putChar", desc := "([BII)V" } : Jvm.MethodName) jdk_52_method_4_code (3 : Nat) (Option.none : Option Jvm.ClassFile.FieldType)).before args0 about1 = true := code_word (m := ⟨8, 3⟩) (meth := k8m3) (c := k8c3) (by decide +kernel) rfl rfl rfl (by decide +kernel)
set_option maxRecDepth 65536 in
theorem w_c18 : (Jvm.Cond.code ({ cls := "java/lang/StringUTF16", name := "getChar", desc := "([BI)C" } : Jvm.MethodName) jdk_52_method_5_code (2 : Nat) (Option.some Jvm.ClassFile.FieldType.char)).before args0 about1 = true := code_word (m := ⟨8, 4⟩) (meth := k8m4) (c := k8c4) (by decide +kernel) rfl rfl rfl (by decide +kernel)
set_option maxRecDepth 65536 in
theorem w_c19 : (Jvm.Cond.code ({ cls := "com/example/topics_into_queries/topicsintoqueries/CodePointsComparePinLaw", name := "key", desc := "(I)I" } : Jvm.MethodName) method_2_code (1 : Nat) (Option.some Jvm.ClassFile.FieldType.int)).before args0 about1 = true := code_word (m := ⟨1, 1⟩) (meth := k1m1) (c := k1c1) (by decide +kernel) rfl rfl rfl (by decide +kernel)
set_option maxRecDepth 65536 in
theorem w_c20 : (Jvm.Cond.code ({ cls := "java/lang/String", name := "charAt", desc := "(I)C" } : Jvm.MethodName) jdk_42_method_56_code (2 : Nat) (Option.some Jvm.ClassFile.FieldType.char)).before args0 about1 = true := code_word (m := ⟨7, 3⟩) (meth := k7m3) (c := k7c3) (by decide +kernel) rfl rfl rfl (by decide +kernel)
set_option maxRecDepth 65536 in
theorem w_c21 : (Jvm.Cond.code ({ cls := "java/lang/String", name := "isLatin1", desc := "()Z" } : Jvm.MethodName) jdk_42_method_154_code (1 : Nat) (Option.some Jvm.ClassFile.FieldType.boolean)).before args0 about1 = true := code_word (m := ⟨7, 6⟩) (meth := k7m6) (c := k7c6) (by decide +kernel) rfl rfl rfl (by decide +kernel)
set_option maxRecDepth 65536 in
theorem w_c22 : (Jvm.Cond.code ({ cls := "java/lang/StringUTF16", name := "charAt", desc := "([BI)C" } : Jvm.MethodName) jdk_52_method_83_code (2 : Nat) (Option.some Jvm.ClassFile.FieldType.char)).before args0 about1 = true := code_word (m := ⟨8, 10⟩) (meth := k8m10) (c := k8c10) (by decide +kernel) rfl rfl rfl (by decide +kernel)
set_option maxRecDepth 65536 in
theorem w_c23 : (Jvm.Cond.code ({ cls := "java/lang/StringUTF16", name := "checkIndex", desc := "(I[B)V" } : Jvm.MethodName) jdk_52_method_91_code (2 : Nat) (Option.none : Option Jvm.ClassFile.FieldType)).before args0 about1 = true := code_word (m := ⟨8, 11⟩) (meth := k8m11) (c := k8c11) (by decide +kernel) rfl rfl rfl (by decide +kernel)
set_option maxRecDepth 65536 in
theorem w_c24 : (Jvm.Cond.code ({ cls := "java/lang/StringUTF16", name := "length", desc := "([B)I" } : Jvm.MethodName) jdk_52_method_6_code (1 : Nat) (Option.some Jvm.ClassFile.FieldType.int)).before args0 about1 = true := code_word (m := ⟨8, 5⟩) (meth := k8m5) (c := k8c5) (by decide +kernel) rfl rfl rfl (by decide +kernel)
set_option maxRecDepth 65536 in
theorem w_c25 : (Jvm.Cond.code ({ cls := "java/lang/String", name := "checkIndex", desc := "(II)V" } : Jvm.MethodName) jdk_42_method_155_code (2 : Nat) (Option.none : Option Jvm.ClassFile.FieldType)).before args0 about1 = true := code_word (m := ⟨7, 7⟩) (meth := k7m7) (c := k7c7) (by decide +kernel) rfl rfl rfl (by decide +kernel)
set_option maxRecDepth 65536 in
theorem w_c26 : (Jvm.Cond.code ({ cls := "jdk/internal/util/Preconditions", name := "checkIndex", desc := "(IILjava/util/function/BiFunction;)I" } : Jvm.MethodName) jdk_41_method_11_code (3 : Nat) (Option.some Jvm.ClassFile.FieldType.int)).before args0 about1 = true := code_word (m := ⟨13, 1⟩) (meth := k13m1) (c := k13c1) (by decide +kernel) rfl rfl rfl (by decide +kernel)
set_option maxRecDepth 65536 in
theorem w_c27 : (Jvm.Cond.code ({ cls := "com/example/topics_into_queries/topicsintoqueries/CodePoints", name := "rank", desc := "(C)I" } : Jvm.MethodName) prog_1_method_3_code (1 : Nat) (Option.some Jvm.ClassFile.FieldType.int)).before args0 about1 = true := code_word (m := ⟨10, 2⟩) (meth := k10m2) (c := k10c2) (by decide +kernel) rfl rfl rfl (by decide +kernel)
set_option maxRecDepth 65536 in
theorem w_c28 : (Jvm.Cond.code ({ cls := "java/lang/Character", name := "isSurrogate", desc := "(C)Z" } : Jvm.MethodName) jdk_89_method_16_code (1 : Nat) (Option.some Jvm.ClassFile.FieldType.boolean)).before args0 about1 = true := code_word (m := ⟨14, 0⟩) (meth := k14m0) (c := k14c0) (by decide +kernel) rfl rfl rfl (by decide +kernel)
set_option maxRecDepth 65536 in
theorem w_c29 : (Jvm.Cond.code ({ cls := "java/lang/StringLatin1", name := "charAt", desc := "([BI)C" } : Jvm.MethodName) jdk_43_method_2_code (2 : Nat) (Option.some Jvm.ClassFile.FieldType.char)).before args0 about1 = true := code_word (m := ⟨15, 1⟩) (meth := k15m1) (c := k15c1) (by decide +kernel) rfl rfl rfl (by decide +kernel)
def codes1 : List Jvm.Cond := [Jvm.Cond.code x code maxLocals ret, Jvm.Cond.code ({ cls := "com/example/topics_into_queries/topicsintoqueries/CodePointsComparePinLaw", name := "str", desc := "(ICC)Ljava/lang/String;" } : Jvm.MethodName) method_4_code (3 : Nat) (Option.some (Jvm.ClassFile.FieldType.object "java/lang/String")), Jvm.Cond.code ({ cls := "java/lang/String", name := "<init>", desc := "([C)V" } : Jvm.MethodName) jdk_42_method_3_code (2 : Nat) (Option.none : Option Jvm.ClassFile.FieldType), Jvm.Cond.code ({ cls := "java/lang/String", name := "<init>", desc := "([CIILjava/lang/Void;)V" } : Jvm.MethodName) jdk_42_method_149_code (6 : Nat) (Option.none : Option Jvm.ClassFile.FieldType), Jvm.Cond.code ({ cls := "java/lang/Object", name := "<init>", desc := "()V" } : Jvm.MethodName) object_method_1_code (1 : Nat) (Option.none : Option Jvm.ClassFile.FieldType), Jvm.Cond.code ({ cls := "java/lang/StringUTF16", name := "compress", desc := "([CII)[B" } : Jvm.MethodName) jdk_52_method_16_code (6 : Nat) (Option.some (Jvm.ClassFile.FieldType.array Jvm.ClassFile.FieldType.byte)), Jvm.Cond.code ({ cls := "java/lang/StringUTF16", name := "compress", desc := "([CI[BII)I" } : Jvm.MethodName) jdk_52_method_21_code (7 : Nat) (Option.some Jvm.ClassFile.FieldType.int), Jvm.Cond.code ({ cls := "java/lang/StringUTF16", name := "coderFromArrayLen", desc := "([BI)B" } : Jvm.MethodName) jdk_52_method_15_code (2 : Nat) (Option.some Jvm.ClassFile.FieldType.byte), Jvm.Cond.code ({ cls := "java/lang/Math", name := "min", desc := "(II)I" } : Jvm.MethodName) jdk_29_method_69_code (2 : Nat) (Option.some Jvm.ClassFile.FieldType.int), Jvm.Cond.code ({ cls := "com/example/topics_into_queries/topicsintoqueries/CodePointsComparePinLaw", name := "sgn", desc := "(I)I" } : Jvm.MethodName) method_3_code (1 : Nat) (Option.some Jvm.ClassFile.FieldType.int), Jvm.Cond.code ({ cls := "com/example/topics_into_queries/topicsintoqueries/CodePoints", name := "compare", desc := "(Ljava/lang/String;Ljava/lang/String;)I" } : Jvm.MethodName) prog_1_method_2_code (4 : Nat) (Option.some Jvm.ClassFile.FieldType.int), Jvm.Cond.code ({ cls := "java/lang/String", name := "length", desc := "()I" } : Jvm.MethodName) jdk_42_method_54_code (1 : Nat) (Option.some Jvm.ClassFile.FieldType.int), Jvm.Cond.code ({ cls := "java/lang/String", name := "coder", desc := "()B" } : Jvm.MethodName) jdk_42_method_152_code (1 : Nat) (Option.some Jvm.ClassFile.FieldType.byte), Jvm.Cond.code ({ cls := "java/lang/Integer", name := "compare", desc := "(II)I" } : Jvm.MethodName) jdk_33_method_40_code (2 : Nat) (Option.some Jvm.ClassFile.FieldType.int), Jvm.Cond.code ({ cls := "java/lang/StringUTF16", name := "toBytes", desc := "([CII)[B" } : Jvm.MethodName) jdk_52_method_14_code (5 : Nat) (Option.some (Jvm.ClassFile.FieldType.array Jvm.ClassFile.FieldType.byte)), Jvm.Cond.code ({ cls := "java/lang/StringUTF16", name := "newBytesFor", desc := "(I)[B" } : Jvm.MethodName) jdk_52_method_2_code (1 : Nat) (Option.some (Jvm.ClassFile.FieldType.array Jvm.ClassFile.FieldType.byte)), Jvm.Cond.code ({ cls := "java/lang/StringUTF16", name := "newBytesLength", desc := "(I)I" } : Jvm.MethodName) jdk_52_method_3_code (1 : Nat) (Option.some Jvm.ClassFile.FieldType.int), Jvm.Cond.code ({ cls := "java/lang/StringUTF16", name := "putChar", desc := "([BII)V" } : Jvm.MethodName) jdk_52_method_4_code (3 : Nat) (Option.none : Option Jvm.ClassFile.FieldType), Jvm.Cond.code ({ cls := "java/lang/StringUTF16", name := "getChar", desc := "([BI)C" } : Jvm.MethodName) jdk_52_method_5_code (2 : Nat) (Option.some Jvm.ClassFile.FieldType.char), Jvm.Cond.code ({ cls := "com/example/topics_into_queries/topicsintoqueries/CodePointsComparePinLaw", name := "key", desc := "(I)I" } : Jvm.MethodName) method_2_code (1 : Nat) (Option.some Jvm.ClassFile.FieldType.int), Jvm.Cond.code ({ cls := "java/lang/String", name := "charAt", desc := "(I)C" } : Jvm.MethodName) jdk_42_method_56_code (2 : Nat) (Option.some Jvm.ClassFile.FieldType.char), Jvm.Cond.code ({ cls := "java/lang/String", name := "isLatin1", desc := "()Z" } : Jvm.MethodName) jdk_42_method_154_code (1 : Nat) (Option.some Jvm.ClassFile.FieldType.boolean), Jvm.Cond.code ({ cls := "java/lang/StringUTF16", name := "charAt", desc := "([BI)C" } : Jvm.MethodName) jdk_52_method_83_code (2 : Nat) (Option.some Jvm.ClassFile.FieldType.char), Jvm.Cond.code ({ cls := "java/lang/StringUTF16", name := "checkIndex", desc := "(I[B)V" } : Jvm.MethodName) jdk_52_method_91_code (2 : Nat) (Option.none : Option Jvm.ClassFile.FieldType), Jvm.Cond.code ({ cls := "java/lang/StringUTF16", name := "length", desc := "([B)I" } : Jvm.MethodName) jdk_52_method_6_code (1 : Nat) (Option.some Jvm.ClassFile.FieldType.int), Jvm.Cond.code ({ cls := "java/lang/String", name := "checkIndex", desc := "(II)V" } : Jvm.MethodName) jdk_42_method_155_code (2 : Nat) (Option.none : Option Jvm.ClassFile.FieldType), Jvm.Cond.code ({ cls := "jdk/internal/util/Preconditions", name := "checkIndex", desc := "(IILjava/util/function/BiFunction;)I" } : Jvm.MethodName) jdk_41_method_11_code (3 : Nat) (Option.some Jvm.ClassFile.FieldType.int), Jvm.Cond.code ({ cls := "com/example/topics_into_queries/topicsintoqueries/CodePoints", name := "rank", desc := "(C)I" } : Jvm.MethodName) prog_1_method_3_code (1 : Nat) (Option.some Jvm.ClassFile.FieldType.int), Jvm.Cond.code ({ cls := "java/lang/Character", name := "isSurrogate", desc := "(C)Z" } : Jvm.MethodName) jdk_89_method_16_code (1 : Nat) (Option.some Jvm.ClassFile.FieldType.boolean), Jvm.Cond.code ({ cls := "java/lang/StringLatin1", name := "charAt", desc := "([BI)C" } : Jvm.MethodName) jdk_43_method_2_code (2 : Nat) (Option.some Jvm.ClassFile.FieldType.char)]
set_option maxRecDepth 65536 in
theorem codes_eq : words1.filter isCode = codes1 := rfl
theorem w_codes : ∀ c ∈ words1.filter isCode, c.before args0 about1 = true := by
  rw [codes_eq]
  intro c hc
  simp only [codes1, List.mem_cons, List.not_mem_nil, or_false] at hc
  rcases hc with rfl | rfl | rfl | rfl | rfl | rfl | rfl | rfl | rfl | rfl | rfl | rfl | rfl | rfl | rfl | rfl | rfl | rfl | rfl | rfl | rfl | rfl | rfl | rfl | rfl | rfl | rfl | rfl | rfl | rfl
  · exact w_c0
  · exact w_c1
  · exact w_c2
  · exact w_c3
  · exact w_c4
  · exact w_c5
  · exact w_c6
  · exact w_c7
  · exact w_c8
  · exact w_c9
  · exact w_c10
  · exact w_c11
  · exact w_c12
  · exact w_c13
  · exact w_c14
  · exact w_c15
  · exact w_c16
  · exact w_c17
  · exact w_c18
  · exact w_c19
  · exact w_c20
  · exact w_c21
  · exact w_c22
  · exact w_c23
  · exact w_c24
  · exact w_c25
  · exact w_c26
  · exact w_c27
  · exact w_c28
  · exact w_c29
set_option maxRecDepth 65536 in
theorem w_t1 : (words1.take 24).all (fun c => isCode c || c.before args0 about1) = true := by decide +kernel
set_option maxRecDepth 65536 in
theorem w_t2 : ((words1.drop 24).take 24).all (fun c => isCode c || c.before args0 about1) = true := by decide +kernel
set_option maxRecDepth 65536 in
theorem w_t3 : (((words1.drop 24).drop 24).take 24).all (fun c => isCode c || c.before args0 about1) = true := by decide +kernel
set_option maxRecDepth 65536 in
theorem w_t4 : ((((words1.drop 24).drop 24).drop 24).take 24).all (fun c => isCode c || c.before args0 about1) = true := by decide +kernel
set_option maxRecDepth 65536 in
theorem w_t5 : (((((words1.drop 24).drop 24).drop 24).drop 24).take 24).all (fun c => isCode c || c.before args0 about1) = true := by decide +kernel
set_option maxRecDepth 65536 in
theorem w_t6 : (((((words1.drop 24).drop 24).drop 24).drop 24).drop 24).all (fun c => isCode c || c.before args0 about1) = true := by decide +kernel
theorem w_tables : (allAtoms (Jvm.Cond.code x code maxLocals ret :: tables_1)).before args0 about1 = true := by
  rw [allAtoms_all]
  show words1.all (fun c => c.before args0 about1) = true
  refine all_split ?_ w_codes
  rw [← List.take_append_drop 24 words1, List.all_append, w_t1, ← List.take_append_drop 24 (words1.drop 24), List.all_append, w_t2, ← List.take_append_drop 24 ((words1.drop 24).drop 24), List.all_append, w_t3, ← List.take_append_drop 24 (((words1.drop 24).drop 24).drop 24), List.all_append, w_t4, ← List.take_append_drop 24 ((((words1.drop 24).drop 24).drop 24).drop 24), List.all_append, w_t5, w_t6]
  rfl
set_option maxRecDepth 65536 in
theorem w_rest : rest_1_c.before args0 about1 = true := by decide +kernel
set_option maxRecDepth 65536 in
theorem w_case : (Jvm.Cond.and given_1 narrow_1).before args0 about1 = true := by decide +kernel
set_option maxRecDepth 65536 in
theorem w_consts : constsHeld consts_1 about1 := Jvm.Lit.constsHeldB_iff.mp (by decide +kernel)
theorem w_applies : (headSpec (Jvm.Cond.code x code maxLocals ret :: tables_1) room_1).applies x e0.platform about1 = true :=
  (Spec.applies_iff w_frames).mpr ⟨w_running, w_runnable, w_alone, w_named, w_hears, w_ripe, w_room, w_tables⟩
theorem atStart : AtStart classFile x code maxLocals ret World_1 tables_1 room_1 Calls_1 rest_1 Pre_1 launch0 p0 e0 about1 theMethod args0 below0 :=
  ⟨lists_1, trivial, launch0.admits_env _ _ _, launch0.least_env, fairChoices_fair.cas, fairChoices_fair.clock, w_frames, w_args, w_heap, w_applies, ⟨w_consts, trivial⟩, w_rest, w_case⟩
end start1
theorem witness_1 : WitnessClaimed_1 := ⟨start1.p0, start1.e0, start1.about1, start1.theMethod, start1.args0, start1.below0, start1.atStart⟩
end Jvm.Pilot.@@N@@
